import JvmDerived
import JvmDerived.Pilot.@@N@@Statement
import JvmDerived.Pilot.@@N@@Code
set_option linter.unusedVariables false
set_option linter.unusedSimpArgs false
namespace Jvm.Pilot.@@N@@
open Jvm Jvm.ClassFile Sem Op Lib Jvm.Free Jvm.Stand Jvm.LawKit Jvm.RoadKit Bundle Jvm.Pilot.@@N@@.Jvm.D
/-! own_Out: from the frame g over T the run comes to a return of which Q speaks. A walk is a proof of own_Out from its entry, backwards step by step; so it may fork. -/
section OwnKit
variable {p : Program} {l : Launch} {e : Env} {R : Room} {s : State} {m : MethodId} {args : Array Value} {below : List Frame} {meth : Method} {c : Code} {T : State} {locs : List Loc} {cells slots kc ks : Nat} {Z : State} {a0 : Array Value} {h h' h0 : Heap} {Q : Option Value → Heap → List Loc → Prop} {g : JFrame}
def own_Out (p : Program) (e : Env) (below : List Frame) (s : State) (Q : Option Value → Heap → List Loc → Prop) (kc ks : Nat) (T : State) (g : JFrame) : Prop :=
  ∃ U o, Steps p.tables e below (T.setTop g) U ∧ U.status = .running ∧ Ended U below o ∧ ∃ v L, o = .returned v ∧ Q v U.heap L ∧ FrameEnd s o U L kc ks
theorem own_st (T' : State) (g' : JFrame) (st : ∀ t, Steps p.tables e below (T'.setTop g') t → Steps p.tables e below (T.setTop g) t) (k : own_Out p e below s Q kc ks T' g') : own_Out p e below s Q kc ks T g := by
  obtain ⟨U, o, h1, h2⟩ := k; exact ⟨U, o, st _ h1, h2⟩
theorem own_tr (T' : State) (g' : JFrame) (st : Steps p.tables e below (T.setTop g) (T'.setTop g')) (k : own_Out p e below s Q kc ks T' g') : own_Out p e below s Q kc ks T g := by
  obtain ⟨U, o, h1, h2⟩ := k; exact ⟨U, o, st.trans h1, h2⟩
theorem own_ret (X : Stand p l e R s m args below meth c T locs cells slots) (hx : p.tables.exec = Jvm.exec) (hlk : meth.locks = false) {pc : Nat} {Ls : Array Slot} {w : Value} {t : FieldType} {i : Instr} {rest : List Value} (hret : meth.sig.returnType = some t) (hn : narrow t w = w)
    (hi : (i = .ireturn ∧ (t = .int ∨ t = .boolean ∨ t = .byte ∨ t = .char ∨ t = .short) ∧ ∃ z, w = .int z) ∨ (i = .lreturn ∧ t = .long ∧ ∃ z, w = .long z) ∨ (i = .dreturn ∧ t = .double ∧ ∃ z, w = .double z) ∨ (i = .freturn ∧ t = .float ∧ ∃ z, w = .float z) ∨ (i = .areturn ∧ t.isReference = true ∧ w.isRef = true))
    (hd : decode c.code pc = .ok (i, 1)) (hc : cells ≤ kc) (hs : slots ≤ ks) (hq : Q (some w) T.heap locs) : own_Out p e below s Q kc ks T (mkF m pc Ls (w :: rest)) := by
  obtain ⟨fs, hr, hrun, hended, hW, hsame⟩ := X.leave (v := some w) (fun h => by rw [hret] at h; cases h) hlk
  exact ⟨_, _, retOut X hx hret hn hi hd hr, hrun, hended, _, _, rfl, hq, ⟨_, rfl⟩, hW, hsame.mono hc hs⟩
theorem own_retI (X : Stand p l e R s m args below meth c T locs cells slots) (hx : p.tables.exec = Jvm.exec) (hlk : meth.locks = false) {pc : Nat} {Ls : Array Slot} {z : Int32} {rest : List Value} (hret : meth.sig.returnType = some .int)
    (hd : decode c.code pc = .ok (.ireturn, 1)) (hc : cells ≤ kc) (hs : slots ≤ ks) (hq : Q (some (.int z)) T.heap locs) : own_Out p e below s Q kc ks T (mkF m pc Ls (.int z :: rest)) :=
  own_ret X hx hlk hret rfl (Or.inl ⟨rfl, Or.inl rfl, z, rfl⟩) hd hc hs hq
theorem own_retJ (X : Stand p l e R s m args below meth c T locs cells slots) (hx : p.tables.exec = Jvm.exec) (hlk : meth.locks = false) {pc : Nat} {Ls : Array Slot} {z : Int64} {rest : List Value} (hret : meth.sig.returnType = some .long)
    (hd : decode c.code pc = .ok (.lreturn, 1)) (hc : cells ≤ kc) (hs : slots ≤ ks) (hq : Q (some (.long z)) T.heap locs) : own_Out p e below s Q kc ks T (mkF m pc Ls (.long z :: rest)) :=
  own_ret X hx hlk hret rfl (Or.inr (Or.inl ⟨rfl, rfl, z, rfl⟩)) hd hc hs hq
theorem own_nref {t : FieldType} {w : Value} (ht : t.isReference = true) (hw : w.isRef = true) : narrow t w = w := by
  cases t <;> first | (cases ht; done) | (cases w <;> first | rfl | (cases hw; done))
theorem own_retA (X : Stand p l e R s m args below meth c T locs cells slots) (hx : p.tables.exec = Jvm.exec) (hlk : meth.locks = false) {pc : Nat} {Ls : Array Slot} {w : Value} {t : FieldType} {rest : List Value} (hret : meth.sig.returnType = some t) (ht : t.isReference = true) (hw : w.isRef = true)
    (hd : decode c.code pc = .ok (.areturn, 1)) (hc : cells ≤ kc) (hs : slots ≤ ks) (hq : Q (some w) T.heap locs) : own_Out p e below s Q kc ks T (mkF m pc Ls (w :: rest)) :=
  own_ret X hx hlk hret (own_nref ht hw) (Or.inr (Or.inr (Or.inr (Or.inr ⟨rfl, ht, hw⟩)))) hd hc hs hq
theorem own_retN (X : Stand p l e R s m args below meth c T locs cells slots) (hx : p.tables.exec = Jvm.exec) (hlk : meth.locks = false) {pc : Nat} {Ls : Array Slot} {z : Int32} {t : FieldType} {rest : List Value} (hret : meth.sig.returnType = some t) (ht : t = .boolean ∨ t = .byte ∨ t = .char ∨ t = .short)
    (hd : decode c.code pc = .ok (.ireturn, 1)) (hc : cells ≤ kc) (hs : slots ≤ ks) (hq : Q (some (.int (nar t z))) T.heap locs) : own_Out p e below s Q kc ks T (mkF m pc Ls (.int z :: rest)) := by
  obtain ⟨fs, hr, hrun, hended, hW, hsame⟩ := X.leave (v := some (.int (nar t z))) (fun h => by rw [hret] at h; cases h) hlk
  exact ⟨_, _, retN X hx hret ht hd hr, hrun, hended, _, _, rfl, hq, ⟨_, rfl⟩, hW, hsame.mono hc hs⟩
theorem own_ret0 (X : Stand p l e R s m args below meth c T locs cells slots) (hx : p.tables.exec = Jvm.exec) (hlk : meth.locks = false) {pc : Nat} {Ls : Array Slot} (hret : meth.sig.returnType = none)
    (hd : decode c.code pc = .ok (.return_, 1)) (hc : cells ≤ kc) (hs : slots ≤ ks) (hq : Q none T.heap locs) : own_Out p e below s Q kc ks T (mkF m pc Ls []) := by
  obtain ⟨fs, hr, hrun, hended, hW, hsame⟩ := X.leave (v := none) (fun _ => rfl) hlk
  exact ⟨_, _, X.returnOut hx hret hd hr, hrun, hended, _, _, rfl, hq, ⟨_, rfl⟩, hW, hsame.mono hc hs⟩
/-- a method's contract at the arguments as' over the heap h0 -/
def own_Met (l : Launch) (Z : State) (y : MethodName) (bytes : ByteArray) (maxL : Nat) (ret : Option FieldType) (rm : Room) (as' : Array Value) (h0 : Heap) (Q : Option Value → Heap → List Loc → Prop) : Prop :=
  ∀ ws : List Jvm.Cond, MetFree l y (head1 (Jvm.Cond.code y bytes maxL ret :: ws) rm) (fun a U => a = as' ∧ Z.Warmed39 U.vm ∧ U.heap = h0) (fun _ _ _ _ _ => True) (fun _ U o U' => ∃ v L, o = .returned v ∧ Q v U'.heap L ∧ FrameEnd U o U' L rm.cells rm.slots)
theorem own_body {y : MethodName} {bytes : ByteArray} {maxL : Nat} {ret : Option FieldType} {rm : Room} {as' : Array Value} (Ls : Array Slot) (hp : plainFor y = true) (hef : ∀ m, entryFrame m as' maxL = mkF m 0 Ls [])
    (hbody : ∀ (p : Program) (e : Env) (s : State) (m : MethodId) (below : List Frame) (meth : Method) (c : Code) (s₁ : State), Stand p l e rm s m as' below meth c s₁ [] 0 0 → p.tables.exec = Jvm.exec → c.code = bytes → c.maxLocals = maxL → meth.sig.returnType = ret → meth.locks = false → Z.Warmed39 s.vm → s.vm.findClass y.cls = some m.cls → meth.name = y.name → s₁.heap = h0 →
      own_Out p e below s Q rm.cells rm.slots s₁ (mkF m 0 Ls [])) : own_Met l Z y bytes maxL ret rm as' h0 Q := by
  intro ws
  refine MetFree.of_bodySF hp hisR ?_
  intro p e s m args below meth c s₁ Bd hml0 hP hK
  obtain ⟨rfl, hZ, hh⟩ := hP
  have X0 : Stand p l e rm s m args below meth c s₁ [] 0 0 := Stand.of_body Bd
  have e0 : s₁.heap = h0 := by rw [← hh, Bd.state]; rfl
  obtain ⟨U, o, h1, h2⟩ := hbody p e s m below meth c s₁ X0 Bd.exec Bd.bytes hml0 Bd.returns Bd.notSynchronized hZ (findClass_of_methodNamed Bd.named) (name_of_methodNamed Bd.named Bd.method).1 e0
  exact ⟨U, o, castTop (hef m) h1, h2⟩
theorem own_callS (X : Stand p l e R s m args below meth c T locs cells slots) (hx : p.tables.exec = Jvm.exec) (hZ : Z.Warmed39 s.vm) {own : String} {index : Nat} {y : MethodName} {bytes : ByteArray} {maxL : Nat} {ret : Option FieldType} (hown : s.vm.findClass own = some m.cls)
    (w1 : (Cond.methodLink own index y).before a0 Z = true) (w2 : (Cond.static y).before a0 Z = true) (w3 : (Cond.initialized y.cls).before a0 Z = true) (w4 : (Cond.code y bytes maxL ret).before a0 Z = true) (hy : y.cls ≠ "java/lang/invoke/MethodHandle" ∧ y.cls ≠ "java/lang/invoke/VarHandle")
    {rm : Room} (argsL rest : List Value) {Qc : Option Value → Heap → List Loc → Prop} (M : own_Met l Z y bytes maxL ret rm argsL.toArray h Qc) (W : Nat) (hf : rm.frames + 1 ≤ R.frames) (hl : W + (maxL + 11) + rm.locals ≤ R.locals) (eT : T.heap = h)
    {pc : Nat} {Ls : Array Slot} {st : List Value} (hsize : Ls.size = c.maxLocals) (hlen : ∀ sig, parseMethodDescriptor y.desc = some sig → argsL.length = sig.parameters.length) (hstack : st = argsL.reverse ++ rest) (hW : (rest.map fun v => v.category).sum ≤ W)
    (hd : decode c.code pc = .ok (.invokestatic index, 3)) (hc : cells + rm.cells ≤ R.cells) (hs : slots + rm.slots ≤ R.slots)
    (k : ∀ v T' L, Stand p l e R s m args below meth c T' (locs ++ L) (cells + rm.cells) (slots + rm.slots) → Qc v T'.heap L → own_Out p e below s Q kc ks T' (mkF m (pc + 3) Ls (v.toList ++ rest))) : own_Out p e below s Q kc ks T (mkF m pc Ls st) := by
  obtain ⟨v, vm1, ⟨T', L', c', n'⟩, -, X', ⟨L, hQ, r1, r2, r3⟩, stp⟩ := Jvm.LawKit.callS X hx (y := y) (bytes := bytes) (maxL := maxL) (ret := ret) hown (mvT hZ w1) (mvT hZ w2) (mvT hZ w3) (mvT hZ w4) hy (backOf (W := W) (M []) hZ w4 w3 hf hl) (g := mkF m pc Ls st) rfl hsize (argsL := argsL) (rest := rest) hlen hstack (by show 2 * 0 + _ ≤ _; omega) hd (fun _ _ => ⟨rfl, eT, hc, hs⟩)
  dsimp only [Pt.U, Pt.locs, Pt.cells, Pt.slots] at X' r1 r2 r3 stp hQ
  subst r1 r2 r3
  exact own_st _ _ stp (k v T' L X' hQ)
theorem own_callC (X : Stand p l e R s m args below meth c T locs cells slots) (hx : p.tables.exec = Jvm.exec) (hZ : Z.Warmed39 s.vm) {own : String} {index : Nat} {y : MethodName} {bytes : ByteArray} {maxL : Nat} (hy1 : y.name = "<init>") (hown : s.vm.findClass own = some m.cls)
    (w1 : (Cond.methodLink own index y).before a0 Z = true) (w2 : (Cond.instanceMethod y).before a0 Z = true) (w3 : (Cond.initialized y.cls).before a0 Z = true) (w4 : (Cond.code y bytes maxL none).before a0 Z = true) (hy : y.cls ≠ "java/lang/invoke/MethodHandle" ∧ y.cls ≠ "java/lang/invoke/VarHandle")
    {rm : Room} (a : Addr) (argsL rest : List Value) {Qc : Option Value → Heap → List Loc → Prop} (M : own_Met l Z y bytes maxL none rm (.ref a :: argsL).toArray h Qc) (W : Nat) (hf : rm.frames + 1 ≤ R.frames) (hl : W + (maxL + 11) + rm.locals ≤ R.locals) (eT : T.heap = h)
    {pc : Nat} {Ls : Array Slot} {st : List Value} (hsize : Ls.size = c.maxLocals) (hlen : ∀ sig, parseMethodDescriptor y.desc = some sig → argsL.length = sig.parameters.length) (hstack : st = argsL.reverse ++ .ref a :: rest) (hW : (rest.map fun v => v.category).sum ≤ W)
    (hd : decode c.code pc = .ok (.invokespecial index, 3)) (hc : cells + rm.cells ≤ R.cells) (hs : slots + rm.slots ≤ R.slots)
    (k : ∀ v T' L, Stand p l e R s m args below meth c T' (locs ++ L) (cells + rm.cells) (slots + rm.slots) → Qc v T'.heap L → own_Out p e below s Q kc ks T' (mkF m (pc + 3) Ls (v.toList ++ rest))) : own_Out p e below s Q kc ks T (mkF m pc Ls st) := by
  obtain ⟨v, vm1, ⟨T', L', c', n'⟩, -, X', ⟨L, hQ, r1, r2, r3⟩, stp⟩ := X.specialBack hx (y := y) (bytes := bytes) (maxL := maxL) hy1 hown (mvT hZ w1) (mvT hZ w2) (mvT hZ w4) hy (backOf (W := W) (M []) hZ w4 w3 hf hl) (g := mkF m pc Ls st) rfl hsize (Steps.refl _) (a := a) (argsL := argsL) (rest := rest) hlen hstack (by show 2 * 0 + _ ≤ _; omega) hd (fun _ _ => ⟨rfl, eT, hc, hs⟩)
  dsimp only [Pt.U, Pt.locs, Pt.cells, Pt.slots] at X' r1 r2 r3 stp hQ
  subst r1 r2 r3
  exact own_tr _ _ stp (k v T' L X' hQ)
theorem own_callV (X : Stand p l e R s m args below meth c T locs cells slots) (hx : p.tables.exec = Jvm.exec) (hZ : Z.Warmed39 s.vm) {own C : String} {index : Nat} {y z : MethodName} {bytes : ByteArray} {maxL : Nat} {ret : Option FieldType} (hown : s.vm.findClass own = some m.cls)
    (w1 : (Cond.methodLink own index y).before a0 Z = true) (w2 : (Cond.declares y).before a0 Z = true) (hnf : NotFace s y) (w5 : (Cond.selects C y z).before a0 Z = true) (w6 : (Cond.instanceMethod z).before a0 Z = true) (w3 : (Cond.initialized z.cls).before a0 Z = true) (w4 : (Cond.code z bytes maxL ret).before a0 Z = true) (hy : y.cls ≠ "java/lang/invoke/MethodHandle" ∧ y.cls ≠ "java/lang/invoke/VarHandle")
    {rm : Room} (a : Addr) (argsL rest : List Value) {Qc : Option Value → Heap → List Loc → Prop} (E : Exa Z h a C) (M : own_Met l Z z bytes maxL ret rm (.ref a :: argsL).toArray h Qc) (W : Nat) (hf : rm.frames + 1 ≤ R.frames) (hl : W + (maxL + 11) + rm.locals ≤ R.locals) (eT : T.heap = h)
    {pc : Nat} {Ls : Array Slot} {st : List Value} (hsize : Ls.size = c.maxLocals) (hlen : ∀ sig, parseMethodDescriptor y.desc = some sig → argsL.length = sig.parameters.length) (hstack : st = argsL.reverse ++ .ref a :: rest) (hW : (rest.map fun v => v.category).sum ≤ W)
    (hd : decode c.code pc = .ok (.invokevirtual index, 3)) (hc : cells + rm.cells ≤ R.cells) (hs : slots + rm.slots ≤ R.slots)
    (k : ∀ v T' L, Stand p l e R s m args below meth c T' (locs ++ L) (cells + rm.cells) (slots + rm.slots) → Qc v T'.heap L → own_Out p e below s Q kc ks T' (mkF m (pc + 3) Ls (v.toList ++ rest))) : own_Out p e below s Q kc ks T (mkF m pc Ls st) := by
  obtain ⟨cq, kq, qa, qb, qc⟩ := isOf hZ eT E
  obtain ⟨v, vm1, ⟨T', L', c', n'⟩, -, X', ⟨L, hQ, r1, r2, r3⟩, stp⟩ := X.virtualBack hx (y := y) (z := z) hown (mvT hZ w1) (mvT hZ w2) hnf (mvT hZ w5) (mvT hZ w6) hy (backOf (W := W) (M []) hZ w4 w3 hf hl) qa qc (g := mkF m pc Ls st) rfl hsize (Steps.refl _) (argsL := argsL) (rest := rest) hlen hstack (by show 2 * 0 + _ ≤ _; omega) hd (fun _ _ => ⟨rfl, eT, hc, hs⟩)
  dsimp only [Pt.U, Pt.locs, Pt.cells, Pt.slots] at X' r1 r2 r3 stp hQ
  subst r1 r2 r3
  exact own_tr _ _ stp (k v T' L X' hQ)
theorem own_callI (X : Stand p l e R s m args below meth c T locs cells slots) (hx : p.tables.exec = Jvm.exec) (hZ : Z.Warmed39 s.vm) {own C : String} {index count : Nat} {xi y : MethodName} {bytes : ByteArray} {maxL : Nat} {ret : Option FieldType} (hown : s.vm.findClass own = some m.cls)
    (w1 : (Cond.methodLink own index xi).before args s = true) (w2 : (Cond.declares xi).before args s = true) (w7 : (Cond.interfaceMethod xi.cls xi.cls xi.name xi.desc).before args s = true) (w5 : (Cond.selects C xi y).before args s = true) (w6 : (Cond.instanceMethod y).before args s = true) (w8 : (Cond.publicMethod y).before args s = true) (w9 : (Cond.unhidden C xi.name xi.desc).before args s = true) (w10 : (Cond.castable C xi.cls).before args s = true) (w3 : (Cond.initialized y.cls).before a0 Z = true) (w4 : (Cond.code y bytes maxL ret).before a0 Z = true) (hy : xi.cls ≠ "java/lang/invoke/MethodHandle" ∧ xi.cls ≠ "java/lang/invoke/VarHandle")
    {rm : Room} (a : Addr) (argsL rest : List Value) {Qc : Option Value → Heap → List Loc → Prop} (E : Exa Z h a C) (M : own_Met l Z y bytes maxL ret rm (.ref a :: argsL).toArray h Qc) (W : Nat) (hf : rm.frames + 1 ≤ R.frames) (hl : W + (maxL + 11) + rm.locals ≤ R.locals) (eT : T.heap = h)
    {pc : Nat} {Ls : Array Slot} {st : List Value} (hsize : Ls.size = c.maxLocals) (hlen : ∀ sig, parseMethodDescriptor xi.desc = some sig → argsL.length = sig.parameters.length) (hstack : st = argsL.reverse ++ .ref a :: rest) (hW : (rest.map fun v => v.category).sum ≤ W)
    (hd : decode c.code pc = .ok (.invokeinterface index count, 5)) (hc : cells + rm.cells ≤ R.cells) (hs : slots + rm.slots ≤ R.slots)
    (k : ∀ v T' L, Stand p l e R s m args below meth c T' (locs ++ L) (cells + rm.cells) (slots + rm.slots) → Qc v T'.heap L → own_Out p e below s Q kc ks T' (mkF m (pc + 5) Ls (v.toList ++ rest))) : own_Out p e below s Q kc ks T (mkF m pc Ls st) := by
  obtain ⟨cq, kq, qa, qb, qc⟩ := isOf hZ eT E
  obtain ⟨v, vm1, ⟨T', L', c', n'⟩, -, X', ⟨L, hQ, r1, r2, r3⟩, stp⟩ := X.interfaceBack hx (xi := xi) (y := y) hown w1 w2 w7 w5 w6 w8 w9 w10 hy (backOf (W := W) (M []) hZ w4 w3 hf hl) qa qb qc (g := mkF m pc Ls st) rfl hsize (Steps.refl _) (argsL := argsL) (rest := rest) hlen hstack (by show 2 * 0 + _ ≤ _; omega) hd (fun _ _ => ⟨rfl, eT, hc, hs⟩)
  dsimp only [Pt.U, Pt.locs, Pt.cells, Pt.slots] at X' r1 r2 r3 stp hQ
  subst r1 r2 r3
  exact own_tr _ _ stp (k v T' L X' hQ)
theorem own_callP (X : Stand p l e R s m args below meth c T locs cells slots) (hx : p.tables.exec = Jvm.exec) (hZ : Z.Warmed39 s.vm) {own : String} {index : Nat} {y : MethodName} {bytes : ByteArray} {maxL : Nat} {ret : Option FieldType} (hown : s.vm.findClass own = some m.cls)
    (w1 : (Cond.methodLink own index y).before a0 Z = true) (w2 : (Cond.instanceMethod y).before a0 Z = true) (w5 : (Cond.selects y.cls y y).before a0 Z = true) (w6 : (Cond.privateMethod y).before a0 Z = true) (w3 : (Cond.initialized y.cls).before a0 Z = true) (w4 : (Cond.code y bytes maxL ret).before a0 Z = true) (hy : y.cls ≠ "java/lang/invoke/MethodHandle" ∧ y.cls ≠ "java/lang/invoke/VarHandle")
    {rm : Room} (a : Addr) (argsL rest : List Value) {C : String} {Qc : Option Value → Heap → List Loc → Prop} (E : Exa Z h a C) (M : own_Met l Z y bytes maxL ret rm (.ref a :: argsL).toArray h Qc) (W : Nat) (hf : rm.frames + 1 ≤ R.frames) (hl : W + (maxL + 11) + rm.locals ≤ R.locals) (eT : T.heap = h)
    {pc : Nat} {Ls : Array Slot} {st : List Value} (hsize : Ls.size = c.maxLocals) (hlen : ∀ sig, parseMethodDescriptor y.desc = some sig → argsL.length = sig.parameters.length) (hstack : st = argsL.reverse ++ .ref a :: rest) (hW : (rest.map fun v => v.category).sum ≤ W)
    (hd : decode c.code pc = .ok (.invokevirtual index, 3)) (hc : cells + rm.cells ≤ R.cells) (hs : slots + rm.slots ≤ R.slots)
    (k : ∀ v T' L, Stand p l e R s m args below meth c T' (locs ++ L) (cells + rm.cells) (slots + rm.slots) → Qc v T'.heap L → own_Out p e below s Q kc ks T' (mkF m (pc + 3) Ls (v.toList ++ rest))) : own_Out p e below s Q kc ks T (mkF m pc Ls st) := by
  obtain ⟨cq, qa, qb⟩ := E.cell
  obtain ⟨v, vm1, ⟨T', L', c', n'⟩, -, X', ⟨L, hQ, r1, r2, r3⟩, stp⟩ := X.privateBack hx (y := y) (bytes := bytes) (maxL := maxL) (ret := ret) hown (mvT hZ w1) (mvT hZ w2) (mvT hZ w5) (Cond.privateMethod_at (mvP hZ w6 (args := #[]))) (mvT hZ w4) hy (backOf (W := W) (M []) hZ w4 w3 hf hl) (g := mkF m pc Ls st) rfl hsize (Steps.refl _) (a := a) (by rw [eT]; exact qa) qb (argsL := argsL) (rest := rest) hlen hstack (by show 2 * 0 + _ ≤ _; omega) hd (fun _ _ => ⟨rfl, eT, hc, hs⟩)
  dsimp only [Pt.U, Pt.locs, Pt.cells, Pt.slots] at X' r1 r2 r3 stp hQ
  subst r1 r2 r3
  exact own_tr _ _ stp (k v T' L X' hQ)
/-- an array by its values: n places, place i holds f i -/
def own_A (Z : State) (h : Heap) (a : Addr) (k : ClassId) (ty : FieldType) (n : Nat) (f : Nat → Value) : Prop := ∃ cl : Cell, Arr Z h a cl ty ∧ cl.cls = k ∧ cl.slots.size = n ∧ n < 2 ^ 31 ∧ ∀ i, i < n → cl.slots[i]? = some (f i)
variable {a b : Addr} {k : ClassId} {ty : FieldType} {n : Nat} {f f' : Nat → Value} {sl : Nat} {v : Value} {ws : List Addr}
theorem own_A.lt (F : own_A Z h a k ty n f) : a < h.size := by obtain ⟨c, A, -⟩ := F; exact A.lt
theorem own_A.ext (F : own_A Z h a k ty n f) (E : Ext h h') : own_A Z h' a k ty n f := by obtain ⟨c, A, r⟩ := F; exact ⟨c, A.ext E, r⟩
theorem own_A.other (F : own_A Z h b k ty n f) (W : Wr h h' a sl v) (q : b ≠ a) : own_A Z h' b k ty n f := by obtain ⟨c, A, r⟩ := F; exact ⟨c, A.other W q, r⟩
theorem own_A.keep (F : own_A Z h a k ty n f) (K : Keep h h' ws) (q : a ∉ ws) : own_A Z h' a k ty n f := by obtain ⟨c, A, r⟩ := F; exact ⟨c, ⟨K.2.1 a c A.1 q, A.2⟩, r⟩
theorem own_A.cong (F : own_A Z h a k ty n f) (q : ∀ i, i < n → f i = f' i) : own_A Z h a k ty n f' := by obtain ⟨c, A, r1, r2, r3, r4⟩ := F; exact ⟨c, A, r1, r2, r3, fun i hi => by rw [r4 i hi, q i hi]⟩
theorem own_A.new {z : Int32} (A : Arr Z h a (newA k ty z) ty) (q : ¬ z < 0) : own_A Z h a k ty z.toNatClampNeg (fun _ => defaultValue ty) := ⟨_, A, rfl, sz_new _ _ _, (back32 q).2, fun i hi => by simp [newA, hi]⟩
theorem own_A.newL {z : Int32} (A : Arr Z h a (newA k ty z) ty) (q : ¬ z < 0) (n : Nat) (hn : z.toNatClampNeg = n) (d : Value) (hd : defaultValue ty = d) : own_A Z h a k ty n (fun i => (List.replicate n d).getD i d) := by
  subst hn hd
  refine (own_A.new A q).cong fun i hi => ?_
  simp [List.getD_eq_getElem?_getD, List.getElem?_replicate, hi]
theorem own_jn {j : Int32} {i : Nat} (q : j.toInt = (i : Int)) : j.toNatClampNeg = i := by simp only [Int32.toNatClampNeg]; omega
theorem own_in {j : Int32} {i n : Nat} {cl : Cell} (q : j.toInt = (i : Int)) (hi : i < n) (S : cl.slots.size = n) : ¬ (j < 0 ∨ cl.slots.size ≤ j.toNatClampNeg) := by
  rw [own_jn q, Int32.lt_iff_toInt_lt, q, S]; have : (0 : Int32).toInt = 0 := rfl; omega
theorem own_A.set (F : own_A Z h a k ty n f) {i : Nat} (hi : i < n) (W : Wr h h' a i v) : own_A Z h' a k ty n (fun x => if x = i then v else f x) := by
  obtain ⟨cl, A, r1, r2, r3, r4⟩ := F
  refine ⟨_, A.same W, r1, by rw [sz_set]; exact r2, r3, fun x hx => ?_⟩
  by_cases q : x = i
  · subst q; simp [Cell.setSlot, r2, hi]
  · show (cl.slots.setIfInBounds i v)[x]? = _
    rw [Array.getElem?_setIfInBounds_ne (Ne.symm q)]; simp only [q, if_false]; exact r4 x hx
theorem own_A.setL {L : List Value} {d : Value} (F : own_A Z h a k ty n (fun x => L.getD x d)) {i : Nat} (hi : i < n) (hL : i < L.length) (W : Wr h h' a i v) : own_A Z h' a k ty n (fun x => (L.set i v).getD x d) := by
  refine (F.set hi W).cong fun x hx => ?_
  by_cases q : x = i
  · subst q; simp [List.getD_eq_getElem?_getD, List.getElem?_set, hL]
  · simp [List.getD_eq_getElem?_getD, List.getElem?_set, q, Ne.symm q]
theorem own_A.setI {b : Nat → Int32} {x : Int32} (F : own_A Z h a k ty n (fun y => .int (b y))) {i : Nat} (hi : i < n) (W : Wr h h' a i (.int x)) : own_A Z h' a k ty n (fun y => .int (if y = i then x else b y)) := by
  refine (F.set hi W).cong fun y hy => ?_
  by_cases q : y = i <;> simp [q]
theorem own_A.setLI {L : List Int32} {x : Int32} (F : own_A Z h a k ty n (fun y => .int (L.getD y 0))) {i : Nat} (hi : i < n) (hL : i < L.length) (W : Wr h h' a i (.int x)) : own_A Z h' a k ty n (fun y => .int ((L.set i x).getD y 0)) := by
  refine (F.setI hi W).cong fun y hy => ?_
  by_cases q : y = i
  · subst q; simp [List.getD_eq_getElem?_getD, List.getElem?_set, hL]
  · simp [List.getD_eq_getElem?_getD, List.getElem?_set, q, Ne.symm q]
theorem own_A.snocI {L : List Int32} {x : Int32} (F : own_A Z h a k ty n (fun y => .int (L.getD y 0))) {i : Nat} (hi : i < n) (hL : L.length = i) (W : Wr h h' a i (.int x)) : own_A Z h' a k ty n (fun y => .int ((L ++ [x]).getD y 0)) := by
  refine (F.setI hi W).cong fun y hy => ?_
  by_cases q : y = i
  · subst q; subst hL; simp [List.getD_eq_getElem?_getD]
  · by_cases r : y < L.length
    · simp [List.getD_eq_getElem?_getD, q, List.getElem?_append_left r]
    · have h1 : L[y]? = none := List.getElem?_eq_none (by omega)
      have h2 : (L ++ [x])[y]? = none := List.getElem?_eq_none (by simp; omega)
      simp [List.getD_eq_getElem?_getD, q, h1, h2]
theorem own_A.newI {z : Int32} (A : Arr Z h a (newA k ty z) ty) (q : ¬ z < 0) (n : Nat) (hn : z.toNatClampNeg = n) (hd : defaultValue ty = .int 0) : own_A Z h a k ty n (fun _ => .int 0) := by
  subst hn; rw [← hd]; exact own_A.new A q
theorem own_A.newLI {z : Int32} (A : Arr Z h a (newA k ty z) ty) (q : ¬ z < 0) (n : Nat) (hn : z.toNatClampNeg = n) (hd : defaultValue ty = .int 0) : own_A Z h a k ty n (fun y => .int ((List.replicate n (0 : Int32)).getD y 0)) := by
  refine (own_A.newI A q n hn hd).cong fun i hi => ?_
  simp [List.getD_eq_getElem?_getD, List.getElem?_replicate, hi]
theorem own_stI (X : Stand p l e R s m args below meth c T locs cells slots) (hx : p.tables.exec = Jvm.exec) (hZ : Z.Warmed39 s.vm) (eT : T.heap = h) (F : own_A Z h a k .int n f) {j x : Int32} (i : Nat) (q : j.toInt = (i : Int)) (hi : i < n) {pc : Nat} {Ls : Array Slot} {rest : List Value} (hd : decode c.code pc = .ok (.iastore, 1)) :
    ∃ T' h', Stand p l e R s m args below meth c T' (locs ++ [⟨a, i⟩]) cells slots ∧ T'.heap = h' ∧ Wr h h' a i (.int x) ∧ ∀ t, Steps p.tables e below (T'.setTop (mkF m (pc + 1) Ls rest)) t → Steps p.tables e below (T.setTop (mkF m pc Ls (.int x :: .int j :: .ref a :: rest))) t := by
  obtain ⟨cl, A, r1, r2, r3, r4⟩ := F
  have := stI X hx hZ eT A (j := j) (x := x) (own_in q hi r2) (g := mkF m pc Ls (.int x :: .int j :: .ref a :: rest)) rfl rfl hd
  rw [own_jn q] at this; exact this
theorem own_stB (X : Stand p l e R s m args below meth c T locs cells slots) (hx : p.tables.exec = Jvm.exec) (hZ : Z.Warmed39 s.vm) (eT : T.heap = h) (F : own_A Z h a k .byte n f) {j x : Int32} (x' : Int32) (hx' : nar .byte x = x') (i : Nat) (q : j.toInt = (i : Int)) (hi : i < n) {pc : Nat} {Ls : Array Slot} {rest : List Value} (hd : decode c.code pc = .ok (.bastore, 1)) :
    ∃ T' h', Stand p l e R s m args below meth c T' (locs ++ [⟨a, i⟩]) cells slots ∧ T'.heap = h' ∧ Wr h h' a i (.int x') ∧ ∀ t, Steps p.tables e below (T'.setTop (mkF m (pc + 1) Ls rest)) t → Steps p.tables e below (T.setTop (mkF m pc Ls (.int x :: .int j :: .ref a :: rest))) t := by
  obtain ⟨cl, A, r1, r2, r3, r4⟩ := F
  have := stB X hx hZ eT A (j := j) (x := x) (own_in q hi r2) (g := mkF m pc Ls (.int x :: .int j :: .ref a :: rest)) rfl rfl hd
  rw [own_jn q] at this; subst hx'; exact this
theorem own_stC (X : Stand p l e R s m args below meth c T locs cells slots) (hx : p.tables.exec = Jvm.exec) (hZ : Z.Warmed39 s.vm) (eT : T.heap = h) (F : own_A Z h a k .char n f) {j x : Int32} (x' : Int32) (hx' : nar .char x = x') (i : Nat) (q : j.toInt = (i : Int)) (hi : i < n) {pc : Nat} {Ls : Array Slot} {rest : List Value} (hd : decode c.code pc = .ok (.castore, 1)) :
    ∃ T' h', Stand p l e R s m args below meth c T' (locs ++ [⟨a, i⟩]) cells slots ∧ T'.heap = h' ∧ Wr h h' a i (.int x') ∧ ∀ t, Steps p.tables e below (T'.setTop (mkF m (pc + 1) Ls rest)) t → Steps p.tables e below (T.setTop (mkF m pc Ls (.int x :: .int j :: .ref a :: rest))) t := by
  obtain ⟨cl, A, r1, r2, r3, r4⟩ := F
  have := stC X hx hZ eT A (j := j) (x := x) (own_in q hi r2) (g := mkF m pc Ls (.int x :: .int j :: .ref a :: rest)) rfl rfl hd
  rw [own_jn q] at this; subst hx'; exact this
theorem own_stR (X : Stand p l e R s m args below meth c T locs cells slots) (hx : p.tables.exec = Jvm.exec) (hZ : Z.Warmed39 s.vm) (eT : T.heap = h) {C : String} (F : own_A Z h a k (.object C) n f) {j : Int32} {v : Value} (O : Ovr Z k C) (I : v = .null ∨ ∃ y, v = .ref y ∧ Ins Z h y C true) (i : Nat) (q : j.toInt = (i : Int)) (hi : i < n) {pc : Nat} {Ls : Array Slot} {rest : List Value} (hd : decode c.code pc = .ok (.aastore, 1)) :
    ∃ T' h', Stand p l e R s m args below meth c T' (locs ++ [⟨a, i⟩]) cells slots ∧ T'.heap = h' ∧ Wr h h' a i v ∧ ∀ t, Steps p.tables e below (T'.setTop (mkF m (pc + 1) Ls rest)) t → Steps p.tables e below (T.setTop (mkF m pc Ls (v :: .int j :: .ref a :: rest))) t := by
  obtain ⟨cl, A, r1, r2, r3, r4⟩ := F
  have S : Sto Z h a v := by
    rcases I with rfl | ⟨y, rfl, I⟩
    · exact Or.inl rfl
    · exact Sto.ofV A r1 O I
  have := stR X hx hZ eT A (j := j) (own_in q hi r2) rfl S (g := mkF m pc Ls (v :: .int j :: .ref a :: rest)) rfl rfl hd
  rw [own_jn q] at this; exact this
theorem own_stRA (X : Stand p l e R s m args below meth c T locs cells slots) (hx : p.tables.exec = Jvm.exec) (hZ : Z.Warmed39 s.vm) (eT : T.heap = h) {C : String} {t0 : FieldType} (F : own_A Z h a k (.array t0) n f) {j : Int32} {v : Value} (O : OvrA Z k t0 C) (I : v = .null ∨ ∃ y, v = .ref y ∧ Ins Z h y C true) (i : Nat) (q : j.toInt = (i : Int)) (hi : i < n) {pc : Nat} {Ls : Array Slot} {rest : List Value} (hd : decode c.code pc = .ok (.aastore, 1)) :
    ∃ T' h', Stand p l e R s m args below meth c T' (locs ++ [⟨a, i⟩]) cells slots ∧ T'.heap = h' ∧ Wr h h' a i v ∧ ∀ t, Steps p.tables e below (T'.setTop (mkF m (pc + 1) Ls rest)) t → Steps p.tables e below (T.setTop (mkF m pc Ls (v :: .int j :: .ref a :: rest))) t := by
  obtain ⟨cl, A, r1, r2, r3, r4⟩ := F
  have S : Sto Z h a v := by
    rcases I with rfl | ⟨y, rfl, I⟩
    · exact Or.inl rfl
    · exact Sto.ofVA A r1 O I
  have := stR X hx hZ eT A (j := j) (own_in q hi r2) rfl S (g := mkF m pc Ls (v :: .int j :: .ref a :: rest)) rfl rfl hd
  rw [own_jn q] at this; exact this
theorem own_ldI (X : Stand p l e R s m args below meth c T locs cells slots) (hx : p.tables.exec = Jvm.exec) (hZ : Z.Warmed39 s.vm) (eT : T.heap = h) (F : own_A Z h a k .int n f) {j : Int32} (i : Nat) (q : j.toInt = (i : Int)) (hi : i < n) {pc : Nat} {Ls : Array Slot} {rest : List Value} (hd : decode c.code pc = .ok (.iaload, 1)) :
    ∀ t, Steps p.tables e below (T.setTop (mkF m (pc + 1) Ls (f i :: rest))) t → Steps p.tables e below (T.setTop (mkF m pc Ls (.int j :: .ref a :: rest))) t := fun t kt => by
  obtain ⟨cl, A, r1, r2, r3, r4⟩ := F
  exact X.iaload hx (j := j) (v := f i) (by rw [eT]; exact A.1) (State.isArrayOf_alike hZ.alike A.2.1) A.2.2 (own_in q hi r2) (by rw [own_jn q]; exact r4 i hi) (g := mkF m pc Ls (.int j :: .ref a :: rest)) rfl rfl hd _ kt
theorem own_ldB (X : Stand p l e R s m args below meth c T locs cells slots) (hx : p.tables.exec = Jvm.exec) (hZ : Z.Warmed39 s.vm) (eT : T.heap = h) (F : own_A Z h a k .byte n f) {j : Int32} (i : Nat) (q : j.toInt = (i : Int)) (hi : i < n) {pc : Nat} {Ls : Array Slot} {rest : List Value} (hd : decode c.code pc = .ok (.baload, 1)) :
    ∀ t, Steps p.tables e below (T.setTop (mkF m (pc + 1) Ls (f i :: rest))) t → Steps p.tables e below (T.setTop (mkF m pc Ls (.int j :: .ref a :: rest))) t := fun t kt => by
  obtain ⟨cl, A, r1, r2, r3, r4⟩ := F
  exact X.baloadBytes hx (j := j) (v := f i) (by rw [eT]; exact A.1) (State.isArrayOf_alike hZ.alike A.2.1) A.2.2 (own_in q hi r2) (by rw [own_jn q]; exact r4 i hi) (g := mkF m pc Ls (.int j :: .ref a :: rest)) rfl rfl hd _ kt
theorem own_ldC (X : Stand p l e R s m args below meth c T locs cells slots) (hx : p.tables.exec = Jvm.exec) (hZ : Z.Warmed39 s.vm) (eT : T.heap = h) (F : own_A Z h a k .char n f) {j : Int32} (i : Nat) (q : j.toInt = (i : Int)) (hi : i < n) {pc : Nat} {Ls : Array Slot} {rest : List Value} (hd : decode c.code pc = .ok (.caload, 1)) :
    ∀ t, Steps p.tables e below (T.setTop (mkF m (pc + 1) Ls (f i :: rest))) t → Steps p.tables e below (T.setTop (mkF m pc Ls (.int j :: .ref a :: rest))) t := fun t kt => by
  obtain ⟨cl, A, r1, r2, r3, r4⟩ := F
  exact X.caload hx (j := j) (v := f i) (by rw [eT]; exact A.1) (State.isArrayOf_alike hZ.alike A.2.1) A.2.2 (own_in q hi r2) (by rw [own_jn q]; exact r4 i hi) (g := mkF m pc Ls (.int j :: .ref a :: rest)) rfl rfl hd _ kt
theorem own_ldR (X : Stand p l e R s m args below meth c T locs cells slots) (hx : p.tables.exec = Jvm.exec) (hZ : Z.Warmed39 s.vm) (eT : T.heap = h) (F : own_A Z h a k ty n f) (hty : ty.isReference = true) {j : Int32} (i : Nat) (q : j.toInt = (i : Int)) (hi : i < n) {pc : Nat} {Ls : Array Slot} {rest : List Value} (hd : decode c.code pc = .ok (.aaload, 1)) :
    ∀ t, Steps p.tables e below (T.setTop (mkF m (pc + 1) Ls (f i :: rest))) t → Steps p.tables e below (T.setTop (mkF m pc Ls (.int j :: .ref a :: rest))) t := fun t kt => by
  obtain ⟨cl, A, r1, r2, r3, r4⟩ := F
  exact X.aaload hx (j := j) (v := f i) (by rw [eT]; exact A.1) (State.isArrayOf_alike hZ.alike A.2.1) hty A.2.2 (own_in q hi r2) (by rw [own_jn q]; exact r4 i hi) (g := mkF m pc Ls (.int j :: .ref a :: rest)) rfl rfl hd _ kt
theorem own_len (X : Stand p l e R s m args below meth c T locs cells slots) (hx : p.tables.exec = Jvm.exec) (hZ : Z.Warmed39 s.vm) (eT : T.heap = h) (F : own_A Z h a k ty n f) {pc : Nat} {Ls : Array Slot} {rest : List Value} (hd : decode c.code pc = .ok (.arraylength, 1)) (z : Int32) (hz : z.toInt = (n : Int)) :
    ∀ t, Steps p.tables e below (T.setTop (mkF m (pc + 1) Ls (.int z :: rest))) t → Steps p.tables e below (T.setTop (mkF m pc Ls (.ref a :: rest))) t := fun t kt => by
  obtain ⟨cl, A, r1, r2, r3, r4⟩ := F
  have q : cl.slots.size.toInt32 = z := by
    apply Int32.toInt_inj.mp; rw [r2, hz]; exact len_toInt r3
  exact X.arraylength hx (by rw [eT]; exact A.1) (State.isArrayOf_alike hZ.alike A.2.1) (g := mkF m pc Ls (.ref a :: rest)) rfl rfl hd _ (by rw [q]; exact kt)
theorem own_cat {w : Value} (h : w.isRef = true) : w.category = 1 := by cases w <;> first | rfl | cases h
theorem own_nb (x : Int32) : nar .byte x.toInt8.toInt32 = x.toInt8.toInt32 := by simp [nar]
theorem own_nc (x : Int32) : nar .char x.toUInt32.toUInt16.toUInt32.toInt32 = x.toUInt32.toUInt16.toUInt32.toInt32 := by
  have := Jvm.Free.XT.narrow_c x
  simpa [nar, narrow] using this
theorem own_nz {z : Int32} (q : z = 0 ∨ z = 1) : nar .boolean z = z := by rcases q with rfl | rfl <;> rfl
theorem own_bt {P : Prop} [Decidable P] (q : P) : ¬ ((if P then (1 : Int32) else 0) = 0) := by simp [q]
theorem own_bf {P : Prop} [Decidable P] (q : ¬ P) : (if P then (1 : Int32) else 0) = 0 := by simp [q]
theorem own_nt {P : Prop} [Decidable P] (q : P) : (if P then (0 : Int32) else 1) = 0 := by simp [q]
theorem own_nf {P : Prop} [Decidable P] (q : ¬ P) : ¬ ((if P then (0 : Int32) else 1) = 0) := by simp [q]
theorem own_lrem {target : State} (X : Stand p l e R s m args below meth c T locs cells slots) (hx : p.tables.exec = Jvm.exec) (hg : g.method = m) {x y : Int64} {rest : List Value} (hd : decode c.code g.pc = .ok (.lrem, 1)) (hs : g.stack = .long y :: .long x :: rest) (hy : y ≠ 0)
    (hr : Steps p.tables e below (T.setTop { g with pc := g.pc + 1, stack := .long (x % y) :: rest }) target) : Steps p.tables e below (T.setTop g) target := XS.lrem X.here hx hg hd hs hy (by rw [lrem_mod]; exact hr)
end OwnKit
def own_al (z : Int32) (al : Int64) : Int64 := if z = (0 : Int32) then al else (al + (1 : Int64))
def own_de (z : Int32) (dn : Int64) : Int64 := if z = (0 : Int32) then (dn + (1 : Int64)) else dn
theorem own_sz0 {Z : State} {args : Array Value} {t : Term} {a : Addr} {cl : Cell} {ty : FieldType} (ev : t.eval args Z none [] Z = some (.ref a)) (A : Arr Z Z.heap a cl ty) (h : (Cond.eq (.length t) (.int 0)).value args Z none Z [] = some true) : cl.slots.size = 0 := by
  obtain ⟨x, y, e1, e2, -, -⟩ := cmp_v (Or.inl h)
  simp only [Term.eval, ev, A.fin (Vm.Alike.refl _), Option.bind_eq_bind, Option.bind_some] at e1
  split at e1
  · rename_i hlt
    cases e1
    have q := gotT (Cond.eq_ints (by simp only [Term.eval, ev, A.fin (Vm.Alike.refl _), Option.bind_eq_bind, Option.bind_some, hlt, if_true]; rfl) (Term.int_eval 0)) h
    have q2 := congrArg Int32.toInt q
    rw [len_toInt (by simpa using hlt)] at q2
    have : (0 : Int32).toInt = 0 := rfl
    omega
  · cases e1
theorem own_A0 {Z : State} {h : Heap} {a : Addr} {cl : Cell} {ty : FieldType} (A : Arr Z h a cl ty) (hs : cl.slots.size = 0) : own_A Z h a cl.cls ty 0 (fun x => (([] : List Value).getD x .null)) := ⟨cl, A, rfl, hs, by decide, fun i hi => absurd hi (Nat.not_lt_zero i)⟩
theorem own_cs {Z : State} {args : Array Value} {t : Term} {x : Int32} (ev : t.eval args Z none [] Z = some (.int x)) (h : (Cond.not (.eq t (.int 0))).value args Z none Z [] = some true) : ¬ x = (0 : Int32) := gotF (Cond.eq_ints ev (Term.int_eval 0)) (not_v h)
theorem own_ch (flags : Int32) : ((((flags.toUInt32 >>> ((8 : Int32) &&& 31).toUInt32).toInt32) &&& (255 : Int32)).toUInt32.toUInt16.toUInt32.toInt32).toInt ≤ 255 := by
  rw [i2c_mask]
  have := c_and ((flags.toUInt32 >>> ((8 : Int32) &&& 31).toUInt32).toInt32) 255 (by decide)
  have : (255 : Int32).toInt = 255 := rfl
  omega

theorem djdk_22_method_1_code_0 : decode jdk_22_method_1_code 0 = .ok (.aload_n 0, 1) := by decide +kernel
theorem djdk_22_method_1_code_1 : decode jdk_22_method_1_code 1 = .ok (.invokespecial 1, 3) := by decide +kernel
theorem djdk_22_method_1_code_4 : decode jdk_22_method_1_code 4 = .ok (.return_, 1) := by decide +kernel
theorem ef_rm5 (m_ : MethodId) (a : Addr) : entryFrame m_ #[(.ref a)] 1 = mkF m_ 0 #[.val (.ref a)] [] := by first | (simp [entryFrame, mkF, argsToLocals, Value.category]; done) | rfl
theorem own_pn0 : plainName "java/util/AbstractCollection" = true := by first | (simp [plainName, overriddenIn]; done) | decide +kernel
set_option maxRecDepth 65536 in
set_option maxHeartbeats 40000000 in
theorem rm5 (l : Launch) (Z : State) (a0 : Array Value) (hw : ∀ d ∈ tables_1, d.before a0 Z = true) (a : Addr) (h0 : Heap) (n0 : Nat) (Z0 : n0 ≤ h0.size)  :
    own_Met l Z (⟨"java/util/AbstractCollection", "<init>", "()V"⟩ : MethodName) jdk_22_method_1_code 1 none ({ frames := 1, cells := 0, slots := 0, locals := 12 } : Room) #[(.ref a)] h0 (fun v h L => v = none ∧ Fr n0 L ∧ h = h0) := by
  refine own_body #[.val (.ref a)] (plainFor_of_name own_pn0) (fun m_ => ef_rm5 m_ a) ?_
  intro p_ e_ s_ m_ below meth c_ s₁ X0 hx hby hml hret hlk hZ hown hnm e0
  have N0 := Fr.nil n0
  show own_Out p_ e_ below s_ _ _ _ s₁ (mkF m_ 0 #[.val (.ref a)] [])
  refine own_st s₁ (mkF m_ 1 #[.val (.ref a)] [(.ref a)]) (fun t_ k_ => ?_) ?_
  · refine XS.aloadN X0.here hx rfl (hb hby djdk_22_method_1_code_0) rfl rfl ?_
    show Steps p_.tables e_ below (s₁.setTop (mkF m_ 1 #[.val (.ref a)] [(.ref a)])) t_
    exact k_
  obtain ⟨T1, X1, e1, st1⟩ := initO X0 hx hZ hown (hw _ (List.mem_of_getElem? (i := 27) rfl)) (hw _ (List.mem_of_getElem? (i := 7) rfl)) (hw _ (List.mem_of_getElem? (i := 8) rfl)) e0 (g := (mkF m_ 1 #[.val (.ref a)] [(.ref a)])) rfl (by rw [hml]; rfl) rfl (hb hby djdk_22_method_1_code_1) (by decide) (W := 0) (by show 2 * 0 + _ ≤ _; exact Nat.le_of_eq rfl) (by decide)
  refine own_st T1 (mkF m_ 4 #[.val (.ref a)] []) st1 ?_
  refine own_ret0 X1 hx hlk hret (hb hby djdk_22_method_1_code_4) (by decide) (by decide) ?_
  rw [e1]
  exact ⟨rfl, N0, rfl⟩
theorem djdk_39_method_1_code_0 : decode jdk_39_method_1_code 0 = .ok (.aload_n 0, 1) := by decide +kernel
theorem own_pd0 : parseMethodDescriptor "()V" = some ⟨[], none⟩ := by decide +kernel
theorem djdk_39_method_1_code_1 : decode jdk_39_method_1_code 1 = .ok (.invokespecial 1, 3) := by decide +kernel
theorem djdk_39_method_1_code_4 : decode jdk_39_method_1_code 4 = .ok (.aload_n 0, 1) := by decide +kernel
theorem djdk_39_method_1_code_5 : decode jdk_39_method_1_code 5 = .ok (.iconst 0, 1) := by decide +kernel
theorem djdk_39_method_1_code_6 : decode jdk_39_method_1_code 6 = .ok (.putfield 7, 3) := by decide +kernel
theorem djdk_39_method_1_code_9 : decode jdk_39_method_1_code 9 = .ok (.return_, 1) := by decide +kernel
theorem ef_rm4 (m_ : MethodId) (a : Addr) : entryFrame m_ #[(.ref a)] 1 = mkF m_ 0 #[.val (.ref a)] [] := by first | (simp [entryFrame, mkF, argsToLocals, Value.category]; done) | rfl
theorem own_pn1 : plainName "java/util/AbstractList" = true := by first | (simp [plainName, overriddenIn]; done) | decide +kernel
set_option maxRecDepth 65536 in
set_option maxHeartbeats 40000000 in
theorem rm4 (l : Launch) (Z : State) (a0 : Array Value) (hw : ∀ d ∈ tables_1, d.before a0 Z = true) (a : Addr) (h0 : Heap) (n0 : Nat) (Z0 : n0 ≤ h0.size) (E_a : Exa Z h0 a "java/util/ArrayList") (F_modCount_a : Fld Z h0 a "java/util/AbstractList" "modCount" "I" (.int (0 : Int32))) (F_elementData_a : Fld Z h0 a "java/util/ArrayList" "elementData" "[Ljava/lang/Object;" .null) (F_size_a : Fld Z h0 a "java/util/ArrayList" "size" "I" (.int (0 : Int32))) (g_a : n0 ≤ a) :
    own_Met l Z (⟨"java/util/AbstractList", "<init>", "()V"⟩ : MethodName) jdk_39_method_1_code 1 none ({ frames := 2, cells := 0, slots := 0, locals := 24 } : Room) #[(.ref a)] h0 (fun v h L => v = none ∧ Fr n0 L ∧ Keep h0 h [a] ∧ Exa Z h a "java/util/ArrayList" ∧ Fld Z h a "java/util/AbstractList" "modCount" "I" (.int (0 : Int32)) ∧ Fld Z h a "java/util/ArrayList" "elementData" "[Ljava/lang/Object;" .null ∧ Fld Z h a "java/util/ArrayList" "size" "I" (.int (0 : Int32))) := by
  refine own_body #[.val (.ref a)] (plainFor_of_name own_pn1) (fun m_ => ef_rm4 m_ a) ?_
  intro p_ e_ s_ m_ below meth c_ s₁ X0 hx hby hml hret hlk hZ hown hnm e0
  have N0 := Fr.nil n0
  have KP := Keep.refl h0 [a]
  show own_Out p_ e_ below s_ _ _ _ s₁ (mkF m_ 0 #[.val (.ref a)] [])
  refine own_st s₁ (mkF m_ 1 #[.val (.ref a)] [(.ref a)]) (fun t_ k_ => ?_) ?_
  · refine XS.aloadN X0.here hx rfl (hb hby djdk_39_method_1_code_0) rfl rfl ?_
    show Steps p_.tables e_ below (s₁.setTop (mkF m_ 1 #[.val (.ref a)] [(.ref a)])) t_
    exact k_
  refine own_callC X0 hx hZ rfl hown (hw _ (List.mem_of_getElem? (i := 21) rfl)) (hw _ (List.mem_of_getElem? (i := 22) rfl)) (hw _ (List.mem_of_getElem? (i := 25) rfl)) (hw _ (List.mem_of_getElem? (i := 26) rfl)) (by decide) a [] [] (rm5 l Z a0 hw a h0 n0 Z0) 0 (by decide) (by decide) e0 (by rw [hml]; rfl) (lenOf own_pd0 rfl) rfl (Nat.le_of_eq rfl) (hb hby djdk_39_method_1_code_1) (by decide) (by decide) ?_
  intro v1 T1 L1 X1 q1
  obtain ⟨rfl, N1q, e1⟩ := q1
  have N1 := Fr.app N0 N1q
  show own_Out p_ e_ below s_ _ _ _ T1 (mkF m_ 4 #[.val (.ref a)] [])
  refine own_st T1 (mkF m_ 6 #[.val (.ref a)] [(.int (0 : Int32)), (.ref a)]) (fun t_ k_ => ?_) ?_
  · refine XS.aloadN X1.here hx rfl (hb hby djdk_39_method_1_code_4) rfl rfl ?_
    show Steps p_.tables e_ below (T1.setTop (mkF m_ 5 #[.val (.ref a)] [(.ref a)])) t_
    refine XS.iconst X1.here hx rfl (hb hby djdk_39_method_1_code_5) ?_
    show Steps p_.tables e_ below (T1.setTop (mkF m_ 6 #[.val (.ref a)] [(.int (0 : Int32)), (.ref a)])) t_
    exact k_
  obtain ⟨T2, h2, X2, e2, W2, st2⟩ := putF X1 hx hZ hown (host := "") (Or.inl (hw _ (List.mem_of_getElem? (i := 28) rfl))) Via.refl e1 F_modCount_a E_a (Or.inl (hw _ (List.mem_of_getElem? (i := 29) rfl))) (hw _ (List.mem_of_getElem? (i := 10) rfl)) (ty := .int) (by decide) rfl rfl (g := (mkF m_ 6 #[.val (.ref a)] [(.int (0 : Int32)), (.ref a)])) rfl rfl (hb hby djdk_39_method_1_code_6)
  have N2 := Fr.snoc X2 N1 g_a
  replace Z0 : n0 ≤ h2.size := W2.size ▸ Z0
  replace KP := KP.wr W2 (Or.inl (List.mem_of_getElem? (i := 0) rfl))
  replace E_a := E_a.wr W2
  replace F_elementData_a := F_elementData_a.other W2 (Or.inr (slot_ne (Or.inl (hw _ (List.mem_of_getElem? (i := 32) rfl))) (Or.inl (hw _ (List.mem_of_getElem? (i := 29) rfl))) (by decide) (t := (.array (.object "java/lang/Object"))) (t' := .int) (by decide) (by decide)))
  replace F_size_a := F_size_a.other W2 (Or.inr (slot_ne (Or.inl (hw _ (List.mem_of_getElem? (i := 106) rfl))) (Or.inl (hw _ (List.mem_of_getElem? (i := 29) rfl))) (by decide) (t := .int) (t' := .int) (by decide) (by decide)))
  replace F_modCount_a := F_modCount_a.same W2
  refine own_st T2 (mkF m_ 9 #[.val (.ref a)] []) st2 ?_
  refine own_ret0 X2 hx hlk hret (hb hby djdk_39_method_1_code_9) (by decide) (by decide) ?_
  rw [e2]
  exact ⟨rfl, N2, KP, E_a, F_modCount_a, F_elementData_a, F_size_a⟩
theorem djdk_38_method_2_code_0 : decode jdk_38_method_2_code 0 = .ok (.aload_n 0, 1) := by decide +kernel
theorem djdk_38_method_2_code_1 : decode jdk_38_method_2_code 1 = .ok (.invokespecial 1, 3) := by decide +kernel
theorem djdk_38_method_2_code_4 : decode jdk_38_method_2_code 4 = .ok (.aload_n 0, 1) := by decide +kernel
theorem djdk_38_method_2_code_5 : decode jdk_38_method_2_code 5 = .ok (.getstatic 39, 3) := by decide +kernel
theorem djdk_38_method_2_code_8 : decode jdk_38_method_2_code 8 = .ok (.putfield 9, 3) := by decide +kernel
theorem djdk_38_method_2_code_11 : decode jdk_38_method_2_code 11 = .ok (.return_, 1) := by decide +kernel
theorem ef_rm3 (m_ : MethodId) (a : Addr) : entryFrame m_ #[(.ref a)] 1 = mkF m_ 0 #[.val (.ref a)] [] := by first | (simp [entryFrame, mkF, argsToLocals, Value.category]; done) | rfl
theorem own_pn2 : plainName "java/util/ArrayList" = true := by first | (simp [plainName, overriddenIn]; done) | decide +kernel
set_option maxRecDepth 65536 in
set_option maxHeartbeats 40000000 in
theorem rm3 (l : Launch) (Z : State) (a0 : Array Value) (hw : ∀ d ∈ tables_1, d.before a0 Z = true) (a : Addr) (de : Addr) (h0 : Heap) (n0 : Nat) (Z0 : n0 ≤ h0.size) (O : Old Z n0 h0) (S_D : Sta Z Z.heap "java/util/ArrayList" "DEFAULTCAPACITY_EMPTY_ELEMENTDATA" "[Ljava/lang/Object;" (.ref de)) (E_a : Exa Z h0 a "java/util/ArrayList") (F_modCount_a : Fld Z h0 a "java/util/AbstractList" "modCount" "I" (.int (0 : Int32))) (F_elementData_a : Fld Z h0 a "java/util/ArrayList" "elementData" "[Ljava/lang/Object;" .null) (F_size_a : Fld Z h0 a "java/util/ArrayList" "size" "I" (.int (0 : Int32))) (g_a : n0 ≤ a) :
    own_Met l Z (⟨"java/util/ArrayList", "<init>", "()V"⟩ : MethodName) jdk_38_method_2_code 1 none ({ frames := 3, cells := 0, slots := 0, locals := 36 } : Room) #[(.ref a)] h0 (fun v h L => v = none ∧ Fr n0 L ∧ Keep h0 h [a] ∧ Exa Z h a "java/util/ArrayList" ∧ Fld Z h a "java/util/AbstractList" "modCount" "I" (.int (0 : Int32)) ∧ Fld Z h a "java/util/ArrayList" "elementData" "[Ljava/lang/Object;" (.ref de) ∧ Fld Z h a "java/util/ArrayList" "size" "I" (.int (0 : Int32))) := by
  refine own_body #[.val (.ref a)] (plainFor_of_name own_pn2) (fun m_ => ef_rm3 m_ a) ?_
  intro p_ e_ s_ m_ below meth c_ s₁ X0 hx hby hml hret hlk hZ hown hnm e0
  have N0 := Fr.nil n0
  have KP := Keep.refl h0 [a]
  show own_Out p_ e_ below s_ _ _ _ s₁ (mkF m_ 0 #[.val (.ref a)] [])
  refine own_st s₁ (mkF m_ 1 #[.val (.ref a)] [(.ref a)]) (fun t_ k_ => ?_) ?_
  · refine XS.aloadN X0.here hx rfl (hb hby djdk_38_method_2_code_0) rfl rfl ?_
    show Steps p_.tables e_ below (s₁.setTop (mkF m_ 1 #[.val (.ref a)] [(.ref a)])) t_
    exact k_
  refine own_callC X0 hx hZ rfl hown (hw _ (List.mem_of_getElem? (i := 15) rfl)) (hw _ (List.mem_of_getElem? (i := 16) rfl)) (hw _ (List.mem_of_getElem? (i := 19) rfl)) (hw _ (List.mem_of_getElem? (i := 20) rfl)) (by decide) a [] [] (rm4 l Z a0 hw a h0 n0 Z0 E_a F_modCount_a F_elementData_a F_size_a g_a) 0 (by decide) (by decide) e0 (by rw [hml]; rfl) (lenOf own_pd0 rfl) rfl (Nat.le_of_eq rfl) (hb hby djdk_38_method_2_code_1) (by decide) (by decide) ?_
  intro v1 T1 L1 X1 q1
  obtain ⟨rfl, N1q, K1, Eq1, Fq1_modCount, Fq1_elementData, Fq1_size⟩ := q1
  have N1 := Fr.app N0 N1q
  replace KP := KP.trans K1 (allS (Or.inl (List.mem_of_getElem? (i := 0) rfl)) all0)
  replace O := O.keep K1 (allS g_a all0)
  replace E_a := E_a.keep K1
  -- F_modCount_a is dropped: written by the callee
  -- F_elementData_a is dropped: written by the callee
  -- F_size_a is dropped: written by the callee
  replace Z0 : n0 ≤ T1.heap.size := Nat.le_trans Z0 K1.1
  have F_modCount_a := Fq1_modCount
  have F_elementData_a := Fq1_elementData
  have F_size_a := Fq1_size
  show own_Out p_ e_ below s_ _ _ _ T1 (mkF m_ 4 #[.val (.ref a)] [])
  refine own_st T1 (mkF m_ 5 #[.val (.ref a)] [(.ref a)]) (fun t_ k_ => ?_) ?_
  · refine XS.aloadN X1.here hx rfl (hb hby djdk_38_method_2_code_4) rfl rfl ?_
    show Steps p_.tables e_ below (T1.setTop (mkF m_ 5 #[.val (.ref a)] [(.ref a)])) t_
    exact k_
  obtain ⟨T2, X2, e2, st2⟩ := getS2 X1 hx hZ hown (host := "") (Or.inl (hw _ (List.mem_of_getElem? (i := 30) rfl))) Via.refl rfl (S_D.ext O.2) (g := (mkF m_ 5 #[.val (.ref a)] [(.ref a)])) rfl (hb hby djdk_38_method_2_code_5)
  refine own_st T2 (mkF m_ 8 #[.val (.ref a)] [(.ref de), (.ref a)]) st2 ?_
  obtain ⟨T3, h3, X3, e3, W3, st3⟩ := putF X2 hx hZ hown (host := "") (Or.inl (hw _ (List.mem_of_getElem? (i := 31) rfl))) Via.refl e2 F_elementData_a E_a (Or.inl (hw _ (List.mem_of_getElem? (i := 32) rfl))) (hw _ (List.mem_of_getElem? (i := 10) rfl)) (ty := (.array (.object "java/lang/Object"))) (by decide) rfl rfl (g := (mkF m_ 8 #[.val (.ref a)] [(.ref de), (.ref a)])) rfl rfl (hb hby djdk_38_method_2_code_8)
  have N3 := Fr.snoc X3 N1 g_a
  replace Z0 : n0 ≤ h3.size := W3.size ▸ Z0
  replace KP := KP.wr W3 (Or.inl (List.mem_of_getElem? (i := 0) rfl))
  replace O := O.wr W3 g_a
  replace E_a := E_a.wr W3
  replace F_modCount_a := F_modCount_a.other W3 (Or.inr (slot_ne (Or.inl (hw _ (List.mem_of_getElem? (i := 29) rfl))) (Or.inl (hw _ (List.mem_of_getElem? (i := 32) rfl))) (by decide) (t := .int) (t' := (.array (.object "java/lang/Object"))) (by decide) (by decide)))
  replace F_size_a := F_size_a.other W3 (Or.inr (slot_ne (Or.inl (hw _ (List.mem_of_getElem? (i := 106) rfl))) (Or.inl (hw _ (List.mem_of_getElem? (i := 32) rfl))) (by decide) (t := .int) (t' := (.array (.object "java/lang/Object"))) (by decide) (by decide)))
  replace F_elementData_a := F_elementData_a.same W3
  refine own_st T3 (mkF m_ 11 #[.val (.ref a)] []) st3 ?_
  refine own_ret0 X3 hx hlk hret (hb hby djdk_38_method_2_code_11) (by decide) (by decide) ?_
  rw [e3]
  exact ⟨rfl, N3, KP, E_a, F_modCount_a, F_elementData_a, F_size_a⟩
theorem dprog_11_method_1_code_0 : decode prog_11_method_1_code 0 = .ok (.aload_n 0, 1) := by decide +kernel
theorem dprog_11_method_1_code_1 : decode prog_11_method_1_code 1 = .ok (.invokespecial 1, 3) := by decide +kernel
theorem dprog_11_method_1_code_4 : decode prog_11_method_1_code 4 = .ok (.aload_n 0, 1) := by decide +kernel
theorem dprog_11_method_1_code_5 : decode prog_11_method_1_code 5 = .ok (.new 7, 3) := by decide +kernel
theorem dprog_11_method_1_code_8 : decode prog_11_method_1_code 8 = .ok (.dup, 1) := by decide +kernel
theorem dprog_11_method_1_code_9 : decode prog_11_method_1_code 9 = .ok (.invokespecial 9, 3) := by decide +kernel
theorem dprog_11_method_1_code_12 : decode prog_11_method_1_code 12 = .ok (.putfield 10, 3) := by decide +kernel
theorem dprog_11_method_1_code_15 : decode prog_11_method_1_code 15 = .ok (.return_, 1) := by decide +kernel
theorem ef_rm1 (m_ : MethodId) (a : Addr) : entryFrame m_ #[(.ref a)] 1 = mkF m_ 0 #[.val (.ref a)] [] := by first | (simp [entryFrame, mkF, argsToLocals, Value.category]; done) | rfl
theorem own_pn3 : plainName "com/example/keep_count/keepcount/api/BatchResult" = true := by first | (simp [plainName, overriddenIn]; done) | decide +kernel
set_option maxRecDepth 65536 in
set_option maxHeartbeats 40000000 in
theorem rm1 (l : Launch) (Z : State) (a0 : Array Value) (hw : ∀ d ∈ tables_1, d.before a0 Z = true) (a : Addr) (de : Addr) (h0 : Heap) (n0 : Nat) (Z0 : n0 ≤ h0.size) (O : Old Z n0 h0) (S_D : Sta Z Z.heap "java/util/ArrayList" "DEFAULTCAPACITY_EMPTY_ELEMENTDATA" "[Ljava/lang/Object;" (.ref de)) (E_a : Exa Z h0 a "com/example/keep_count/keepcount/api/BatchResult") (F_allowed_a : Fld Z h0 a "com/example/keep_count/keepcount/api/BatchResult" "allowed" "J" (.long (0 : Int64))) (F_denied_a : Fld Z h0 a "com/example/keep_count/keepcount/api/BatchResult" "denied" "J" (.long (0 : Int64))) (F_rejected_a : Fld Z h0 a "com/example/keep_count/keepcount/api/BatchResult" "rejected" "J" (.long (0 : Int64))) (F_rejections_a : Fld Z h0 a "com/example/keep_count/keepcount/api/BatchResult" "rejections" "Ljava/util/List;" .null) (g_a : n0 ≤ a) :
    own_Met l Z (⟨"com/example/keep_count/keepcount/api/BatchResult", "<init>", "()V"⟩ : MethodName) prog_11_method_1_code 1 none ({ frames := 4, cells := 1, slots := 3, locals := 50 } : Room) #[(.ref a)] h0 (fun v h L => ∃ b : Addr, v = none ∧ Fr n0 L ∧ Keep h0 h [a] ∧ n0 ≤ b ∧ b ≠ a ∧ Exa Z h a "com/example/keep_count/keepcount/api/BatchResult" ∧ Fld Z h a "com/example/keep_count/keepcount/api/BatchResult" "allowed" "J" (.long (0 : Int64)) ∧ Fld Z h a "com/example/keep_count/keepcount/api/BatchResult" "denied" "J" (.long (0 : Int64)) ∧ Fld Z h a "com/example/keep_count/keepcount/api/BatchResult" "rejected" "J" (.long (0 : Int64)) ∧ Fld Z h a "com/example/keep_count/keepcount/api/BatchResult" "rejections" "Ljava/util/List;" (.ref b) ∧ Exa Z h b "java/util/ArrayList" ∧ Fld Z h b "java/util/AbstractList" "modCount" "I" (.int (0 : Int32)) ∧ Fld Z h b "java/util/ArrayList" "elementData" "[Ljava/lang/Object;" (.ref de) ∧ Fld Z h b "java/util/ArrayList" "size" "I" (.int (0 : Int32))) := by
  refine own_body #[.val (.ref a)] (plainFor_of_name own_pn3) (fun m_ => ef_rm1 m_ a) ?_
  intro p_ e_ s_ m_ below meth c_ s₁ X0 hx hby hml hret hlk hZ hown hnm e0
  have N0 := Fr.nil n0
  have KP := Keep.refl h0 [a]
  show own_Out p_ e_ below s_ _ _ _ s₁ (mkF m_ 0 #[.val (.ref a)] [])
  refine own_st s₁ (mkF m_ 1 #[.val (.ref a)] [(.ref a)]) (fun t_ k_ => ?_) ?_
  · refine XS.aloadN X0.here hx rfl (hb hby dprog_11_method_1_code_0) rfl rfl ?_
    show Steps p_.tables e_ below (s₁.setTop (mkF m_ 1 #[.val (.ref a)] [(.ref a)])) t_
    exact k_
  obtain ⟨T1, X1, e1, st1⟩ := initO X0 hx hZ hown (hw _ (List.mem_of_getElem? (i := 6) rfl)) (hw _ (List.mem_of_getElem? (i := 7) rfl)) (hw _ (List.mem_of_getElem? (i := 8) rfl)) e0 (g := (mkF m_ 1 #[.val (.ref a)] [(.ref a)])) rfl (by rw [hml]; rfl) rfl (hb hby dprog_11_method_1_code_1) (by decide) (W := 0) (by show 2 * 0 + _ ≤ _; exact Nat.le_of_eq rfl) (by decide)
  refine own_st T1 (mkF m_ 4 #[.val (.ref a)] []) st1 ?_
  refine own_st T1 (mkF m_ 5 #[.val (.ref a)] [(.ref a)]) (fun t_ k_ => ?_) ?_
  · refine XS.aloadN X1.here hx rfl (hb hby dprog_11_method_1_code_4) rfl rfl ?_
    show Steps p_.tables e_ below (T1.setTop (mkF m_ 5 #[.val (.ref a)] [(.ref a)])) t_
    exact k_
  obtain ⟨T2, h2, X2, e2, E2, A2, D2, -, st2⟩ := newO X1 hx hZ hown (hw _ (List.mem_of_getElem? (i := 9) rfl)) (hw _ (List.mem_of_getElem? (i := 10) rfl)) (hw _ (List.mem_of_getElem? (i := 11) rfl)) e1 (g := (mkF m_ 5 #[.val (.ref a)] [(.ref a)])) rfl (hb hby dprog_11_method_1_code_5) (by decide) (by decide)
  obtain ⟨b2, g2⟩ : ∃ z, z = h0.size := ⟨_, rfl⟩
  rw [← g2] at A2 D2 st2
  have g_b2 : n0 ≤ b2 := g2 ▸ Z0
  have sz_b2 : h0.size ≤ b2 := g2 ▸ KP.1
  have ne_a_b2 : a ≠ b2 := Nat.ne_of_lt (Nat.lt_of_lt_of_le E_a.lt (Nat.le_of_eq g2.symm))
  replace KP := KP.ext E2
  replace O := O.ext E2
  replace E_a := E_a.ext E2
  replace F_allowed_a := F_allowed_a.ext E2
  replace F_denied_a := F_denied_a.ext E2
  replace F_rejected_a := F_rejected_a.ext E2
  replace F_rejections_a := F_rejections_a.ext E2
  replace Z0 : n0 ≤ h2.size := Nat.le_trans Z0 E2.1
  have F_modCount_b2 : Fld Z h2 b2 "java/util/AbstractList" "modCount" "I" (.int (0 : Int32)) := D2 (Or.inl (hw _ (List.mem_of_getElem? (i := 29) rfl))) (ty := .int) (by decide)
  have F_elementData_b2 : Fld Z h2 b2 "java/util/ArrayList" "elementData" "[Ljava/lang/Object;" .null := D2 (Or.inl (hw _ (List.mem_of_getElem? (i := 32) rfl))) (ty := (.array (.object "java/lang/Object"))) (by decide)
  have F_size_b2 : Fld Z h2 b2 "java/util/ArrayList" "size" "I" (.int (0 : Int32)) := D2 (Or.inl (hw _ (List.mem_of_getElem? (i := 106) rfl))) (ty := .int) (by decide)
  have E_b2 := A2
  refine own_st T2 (mkF m_ 8 #[.val (.ref a)] [(.ref b2), (.ref a)]) st2 ?_
  refine own_st T2 (mkF m_ 9 #[.val (.ref a)] [(.ref b2), (.ref b2), (.ref a)]) (fun t_ k_ => ?_) ?_
  · refine XS.dup X2.here hx rfl (hb hby dprog_11_method_1_code_8) rfl rfl ?_
    show Steps p_.tables e_ below (T2.setTop (mkF m_ 9 #[.val (.ref a)] [(.ref b2), (.ref b2), (.ref a)])) t_
    exact k_
  refine own_callC X2 hx hZ rfl hown (hw _ (List.mem_of_getElem? (i := 12) rfl)) (hw _ (List.mem_of_getElem? (i := 13) rfl)) (hw _ (List.mem_of_getElem? (i := 11) rfl)) (hw _ (List.mem_of_getElem? (i := 14) rfl)) (by decide) b2 [] [(.ref b2), (.ref a)] (rm3 l Z a0 hw b2 de h2 n0 Z0 O S_D E_b2 F_modCount_b2 F_elementData_b2 F_size_b2 g_b2) 2 (by decide) (by decide) e2 (by rw [hml]; rfl) (lenOf own_pd0 rfl) rfl (Nat.le_of_eq rfl) (hb hby dprog_11_method_1_code_9) (by decide) (by decide) ?_
  intro v3 T3 L3 X3 q3
  obtain ⟨rfl, N3q, K3, Eq3, Fq3_modCount, Fq3_elementData, Fq3_size⟩ := q3
  have N3 := Fr.app N0 N3q
  replace KP := KP.trans K3 (allS (Or.inr sz_b2) all0)
  replace O := O.keep K3 (allS g_b2 all0)
  replace E_a := E_a.keep K3
  replace F_allowed_a := F_allowed_a.keep K3 (ninS ne_a_b2 nin0)
  replace F_denied_a := F_denied_a.keep K3 (ninS ne_a_b2 nin0)
  replace F_rejected_a := F_rejected_a.keep K3 (ninS ne_a_b2 nin0)
  replace F_rejections_a := F_rejections_a.keep K3 (ninS ne_a_b2 nin0)
  -- F_modCount_b2 is dropped: written by the callee
  -- F_elementData_b2 is dropped: written by the callee
  -- F_size_b2 is dropped: written by the callee
  replace E_b2 := E_b2.keep K3
  replace Z0 : n0 ≤ T3.heap.size := Nat.le_trans Z0 K3.1
  have F_modCount_b2 := Fq3_modCount
  have F_elementData_b2 := Fq3_elementData
  have F_size_b2 := Fq3_size
  show own_Out p_ e_ below s_ _ _ _ T3 (mkF m_ 12 #[.val (.ref a)] [(.ref b2), (.ref a)])
  obtain ⟨T4, h4, X4, e4, W4, st4⟩ := putF X3 hx hZ hown (host := "") (Or.inl (hw _ (List.mem_of_getElem? (i := 33) rfl))) Via.refl rfl F_rejections_a E_a (Or.inr ⟨(hw _ (List.mem_of_getElem? (i := 34) rfl)), rfl, hnm⟩) (hw _ (List.mem_of_getElem? (i := 1) rfl)) (ty := (.object "java/util/List")) (by decide) rfl rfl (g := (mkF m_ 12 #[.val (.ref a)] [(.ref b2), (.ref a)])) rfl rfl (hb hby dprog_11_method_1_code_12)
  have N4 := Fr.snoc X4 N3 g_a
  replace Z0 : n0 ≤ h4.size := W4.size ▸ Z0
  replace KP := KP.wr W4 (Or.inl (List.mem_of_getElem? (i := 0) rfl))
  replace O := O.wr W4 g_a
  replace E_a := E_a.wr W4
  replace F_allowed_a := F_allowed_a.other W4 (Or.inr (slot_ne (Or.inl (hw _ (List.mem_of_getElem? (i := 48) rfl))) (Or.inr (hw _ (List.mem_of_getElem? (i := 34) rfl))) (by decide) (t := .long) (t' := (.object "java/util/List")) (by decide) (by decide)))
  replace F_denied_a := F_denied_a.other W4 (Or.inr (slot_ne (Or.inl (hw _ (List.mem_of_getElem? (i := 41) rfl))) (Or.inr (hw _ (List.mem_of_getElem? (i := 34) rfl))) (by decide) (t := .long) (t' := (.object "java/util/List")) (by decide) (by decide)))
  replace F_rejected_a := F_rejected_a.other W4 (Or.inr (slot_ne (Or.inl (hw _ (List.mem_of_getElem? (i := 61) rfl))) (Or.inr (hw _ (List.mem_of_getElem? (i := 34) rfl))) (by decide) (t := .long) (t' := (.object "java/util/List")) (by decide) (by decide)))
  replace E_b2 := E_b2.wr W4
  replace F_modCount_b2 := F_modCount_b2.other W4 (Or.inl (Ne.symm ne_a_b2))
  replace F_elementData_b2 := F_elementData_b2.other W4 (Or.inl (Ne.symm ne_a_b2))
  replace F_size_b2 := F_size_b2.other W4 (Or.inl (Ne.symm ne_a_b2))
  replace F_rejections_a := F_rejections_a.same W4
  refine own_st T4 (mkF m_ 15 #[.val (.ref a)] []) st4 ?_
  refine own_ret0 X4 hx hlk hret (hb hby dprog_11_method_1_code_15) (by decide) (by decide) ?_
  rw [e4]
  exact ⟨b2, rfl, N4, KP, g_b2, Ne.symm ne_a_b2, E_a, F_allowed_a, F_denied_a, F_rejected_a, F_rejections_a, E_b2, F_modCount_b2, F_elementData_b2, F_size_b2⟩
theorem dprog_11_method_5_code_0 : decode prog_11_method_5_code 0 = .ok (.aload_n 0, 1) := by decide +kernel
theorem dprog_11_method_5_code_1 : decode prog_11_method_5_code 1 = .ok (.getfield 16, 3) := by decide +kernel
theorem dprog_11_method_5_code_4 : decode prog_11_method_5_code 4 = .ok (.lreturn, 1) := by decide +kernel
theorem ef_rm7 (m_ : MethodId) (a : Addr) : entryFrame m_ #[(.ref a)] 1 = mkF m_ 0 #[.val (.ref a)] [] := by first | (simp [entryFrame, mkF, argsToLocals, Value.category]; done) | rfl
set_option maxRecDepth 65536 in
set_option maxHeartbeats 40000000 in
theorem rm7 (l : Launch) (Z : State) (a0 : Array Value) (hw : ∀ d ∈ tables_1, d.before a0 Z = true) (a : Addr) (al dn rj : Int64) (h0 : Heap) (n0 : Nat) (Z0 : n0 ≤ h0.size) (F_allowed_a : Fld Z h0 a "com/example/keep_count/keepcount/api/BatchResult" "allowed" "J" (.long al)) (F_denied_a : Fld Z h0 a "com/example/keep_count/keepcount/api/BatchResult" "denied" "J" (.long dn)) (F_rejected_a : Fld Z h0 a "com/example/keep_count/keepcount/api/BatchResult" "rejected" "J" (.long rj)) :
    own_Met l Z (⟨"com/example/keep_count/keepcount/api/BatchResult", "allowed", "()J"⟩ : MethodName) prog_11_method_5_code 1 (some .long) ({ frames := 0, cells := 0, slots := 0, locals := 0 } : Room) #[(.ref a)] h0 (fun v h L => v = some (.long al) ∧ Fr n0 L ∧ h = h0) := by
  refine own_body #[.val (.ref a)] (plainFor_of_name own_pn3) (fun m_ => ef_rm7 m_ a) ?_
  intro p_ e_ s_ m_ below meth c_ s₁ X0 hx hby hml hret hlk hZ hown hnm e0
  have N0 := Fr.nil n0
  show own_Out p_ e_ below s_ _ _ _ s₁ (mkF m_ 0 #[.val (.ref a)] [])
  refine own_st s₁ (mkF m_ 1 #[.val (.ref a)] [(.ref a)]) (fun t_ k_ => ?_) ?_
  · refine XS.aloadN X0.here hx rfl (hb hby dprog_11_method_5_code_0) rfl rfl ?_
    show Steps p_.tables e_ below (s₁.setTop (mkF m_ 1 #[.val (.ref a)] [(.ref a)])) t_
    exact k_
  obtain ⟨T1, X1, e1, st1⟩ := getF X0 hx hZ hown (host := "") (Or.inl (hw _ (List.mem_of_getElem? (i := 47) rfl))) Via.refl e0 F_allowed_a (g := (mkF m_ 1 #[.val (.ref a)] [(.ref a)])) rfl rfl (hb hby dprog_11_method_5_code_1)
  refine own_st T1 (mkF m_ 4 #[.val (.ref a)] [(.long al)]) st1 ?_
  refine own_retJ X1 hx hlk hret (hb hby dprog_11_method_5_code_4) (by decide) (by decide) ?_
  rw [e1]
  exact ⟨rfl, N0, rfl⟩
theorem dprog_11_method_6_code_0 : decode prog_11_method_6_code 0 = .ok (.aload_n 0, 1) := by decide +kernel
theorem dprog_11_method_6_code_1 : decode prog_11_method_6_code 1 = .ok (.getfield 20, 3) := by decide +kernel
theorem dprog_11_method_6_code_4 : decode prog_11_method_6_code 4 = .ok (.lreturn, 1) := by decide +kernel
theorem ef_rm8 (m_ : MethodId) (a : Addr) : entryFrame m_ #[(.ref a)] 1 = mkF m_ 0 #[.val (.ref a)] [] := by first | (simp [entryFrame, mkF, argsToLocals, Value.category]; done) | rfl
set_option maxRecDepth 65536 in
set_option maxHeartbeats 40000000 in
theorem rm8 (l : Launch) (Z : State) (a0 : Array Value) (hw : ∀ d ∈ tables_1, d.before a0 Z = true) (a : Addr) (al dn rj : Int64) (h0 : Heap) (n0 : Nat) (Z0 : n0 ≤ h0.size) (F_allowed_a : Fld Z h0 a "com/example/keep_count/keepcount/api/BatchResult" "allowed" "J" (.long al)) (F_denied_a : Fld Z h0 a "com/example/keep_count/keepcount/api/BatchResult" "denied" "J" (.long dn)) (F_rejected_a : Fld Z h0 a "com/example/keep_count/keepcount/api/BatchResult" "rejected" "J" (.long rj)) :
    own_Met l Z (⟨"com/example/keep_count/keepcount/api/BatchResult", "denied", "()J"⟩ : MethodName) prog_11_method_6_code 1 (some .long) ({ frames := 0, cells := 0, slots := 0, locals := 0 } : Room) #[(.ref a)] h0 (fun v h L => v = some (.long dn) ∧ Fr n0 L ∧ h = h0) := by
  refine own_body #[.val (.ref a)] (plainFor_of_name own_pn3) (fun m_ => ef_rm8 m_ a) ?_
  intro p_ e_ s_ m_ below meth c_ s₁ X0 hx hby hml hret hlk hZ hown hnm e0
  have N0 := Fr.nil n0
  show own_Out p_ e_ below s_ _ _ _ s₁ (mkF m_ 0 #[.val (.ref a)] [])
  refine own_st s₁ (mkF m_ 1 #[.val (.ref a)] [(.ref a)]) (fun t_ k_ => ?_) ?_
  · refine XS.aloadN X0.here hx rfl (hb hby dprog_11_method_6_code_0) rfl rfl ?_
    show Steps p_.tables e_ below (s₁.setTop (mkF m_ 1 #[.val (.ref a)] [(.ref a)])) t_
    exact k_
  obtain ⟨T1, X1, e1, st1⟩ := getF X0 hx hZ hown (host := "") (Or.inl (hw _ (List.mem_of_getElem? (i := 40) rfl))) Via.refl e0 F_denied_a (g := (mkF m_ 1 #[.val (.ref a)] [(.ref a)])) rfl rfl (hb hby dprog_11_method_6_code_1)
  refine own_st T1 (mkF m_ 4 #[.val (.ref a)] [(.long dn)]) st1 ?_
  refine own_retJ X1 hx hlk hret (hb hby dprog_11_method_6_code_4) (by decide) (by decide) ?_
  rw [e1]
  exact ⟨rfl, N0, rfl⟩
theorem dprog_11_method_7_code_0 : decode prog_11_method_7_code 0 = .ok (.aload_n 0, 1) := by decide +kernel
theorem dprog_11_method_7_code_1 : decode prog_11_method_7_code 1 = .ok (.getfield 23, 3) := by decide +kernel
theorem dprog_11_method_7_code_4 : decode prog_11_method_7_code 4 = .ok (.lreturn, 1) := by decide +kernel
theorem ef_rm9 (m_ : MethodId) (a : Addr) : entryFrame m_ #[(.ref a)] 1 = mkF m_ 0 #[.val (.ref a)] [] := by first | (simp [entryFrame, mkF, argsToLocals, Value.category]; done) | rfl
set_option maxRecDepth 65536 in
set_option maxHeartbeats 40000000 in
theorem rm9 (l : Launch) (Z : State) (a0 : Array Value) (hw : ∀ d ∈ tables_1, d.before a0 Z = true) (a : Addr) (al dn rj : Int64) (h0 : Heap) (n0 : Nat) (Z0 : n0 ≤ h0.size) (F_allowed_a : Fld Z h0 a "com/example/keep_count/keepcount/api/BatchResult" "allowed" "J" (.long al)) (F_denied_a : Fld Z h0 a "com/example/keep_count/keepcount/api/BatchResult" "denied" "J" (.long dn)) (F_rejected_a : Fld Z h0 a "com/example/keep_count/keepcount/api/BatchResult" "rejected" "J" (.long rj)) :
    own_Met l Z (⟨"com/example/keep_count/keepcount/api/BatchResult", "rejected", "()J"⟩ : MethodName) prog_11_method_7_code 1 (some .long) ({ frames := 0, cells := 0, slots := 0, locals := 0 } : Room) #[(.ref a)] h0 (fun v h L => v = some (.long rj) ∧ Fr n0 L ∧ h = h0) := by
  refine own_body #[.val (.ref a)] (plainFor_of_name own_pn3) (fun m_ => ef_rm9 m_ a) ?_
  intro p_ e_ s_ m_ below meth c_ s₁ X0 hx hby hml hret hlk hZ hown hnm e0
  have N0 := Fr.nil n0
  show own_Out p_ e_ below s_ _ _ _ s₁ (mkF m_ 0 #[.val (.ref a)] [])
  refine own_st s₁ (mkF m_ 1 #[.val (.ref a)] [(.ref a)]) (fun t_ k_ => ?_) ?_
  · refine XS.aloadN X0.here hx rfl (hb hby dprog_11_method_7_code_0) rfl rfl ?_
    show Steps p_.tables e_ below (s₁.setTop (mkF m_ 1 #[.val (.ref a)] [(.ref a)])) t_
    exact k_
  obtain ⟨T1, X1, e1, st1⟩ := getF X0 hx hZ hown (host := "") (Or.inl (hw _ (List.mem_of_getElem? (i := 60) rfl))) Via.refl e0 F_rejected_a (g := (mkF m_ 1 #[.val (.ref a)] [(.ref a)])) rfl rfl (hb hby dprog_11_method_7_code_1)
  refine own_st T1 (mkF m_ 4 #[.val (.ref a)] [(.long rj)]) st1 ?_
  refine own_retJ X1 hx hlk hret (hb hby dprog_11_method_7_code_4) (by decide) (by decide) ?_
  rw [e1]
  exact ⟨rfl, N0, rfl⟩
theorem dprog_11_method_4_code_0 : decode prog_11_method_4_code 0 = .ok (.aload_n 0, 1) := by decide +kernel
theorem dprog_11_method_4_code_1 : decode prog_11_method_4_code 1 = .ok (.getfield 16, 3) := by decide +kernel
theorem dprog_11_method_4_code_4 : decode prog_11_method_4_code 4 = .ok (.aload_n 0, 1) := by decide +kernel
theorem dprog_11_method_4_code_5 : decode prog_11_method_4_code 5 = .ok (.getfield 20, 3) := by decide +kernel
theorem dprog_11_method_4_code_8 : decode prog_11_method_4_code 8 = .ok (.ladd, 1) := by decide +kernel
theorem dprog_11_method_4_code_9 : decode prog_11_method_4_code 9 = .ok (.aload_n 0, 1) := by decide +kernel
theorem dprog_11_method_4_code_10 : decode prog_11_method_4_code 10 = .ok (.getfield 23, 3) := by decide +kernel
theorem dprog_11_method_4_code_13 : decode prog_11_method_4_code 13 = .ok (.ladd, 1) := by decide +kernel
theorem dprog_11_method_4_code_14 : decode prog_11_method_4_code 14 = .ok (.lreturn, 1) := by decide +kernel
theorem ef_rm10 (m_ : MethodId) (a : Addr) : entryFrame m_ #[(.ref a)] 1 = mkF m_ 0 #[.val (.ref a)] [] := by first | (simp [entryFrame, mkF, argsToLocals, Value.category]; done) | rfl
set_option maxRecDepth 65536 in
set_option maxHeartbeats 40000000 in
theorem rm10 (l : Launch) (Z : State) (a0 : Array Value) (hw : ∀ d ∈ tables_1, d.before a0 Z = true) (a : Addr) (al dn rj : Int64) (h0 : Heap) (n0 : Nat) (Z0 : n0 ≤ h0.size) (F_allowed_a : Fld Z h0 a "com/example/keep_count/keepcount/api/BatchResult" "allowed" "J" (.long al)) (F_denied_a : Fld Z h0 a "com/example/keep_count/keepcount/api/BatchResult" "denied" "J" (.long dn)) (F_rejected_a : Fld Z h0 a "com/example/keep_count/keepcount/api/BatchResult" "rejected" "J" (.long rj)) :
    own_Met l Z (⟨"com/example/keep_count/keepcount/api/BatchResult", "received", "()J"⟩ : MethodName) prog_11_method_4_code 1 (some .long) ({ frames := 0, cells := 0, slots := 0, locals := 0 } : Room) #[(.ref a)] h0 (fun v h L => v = some (.long ((al + dn) + rj)) ∧ Fr n0 L ∧ h = h0) := by
  refine own_body #[.val (.ref a)] (plainFor_of_name own_pn3) (fun m_ => ef_rm10 m_ a) ?_
  intro p_ e_ s_ m_ below meth c_ s₁ X0 hx hby hml hret hlk hZ hown hnm e0
  have N0 := Fr.nil n0
  show own_Out p_ e_ below s_ _ _ _ s₁ (mkF m_ 0 #[.val (.ref a)] [])
  refine own_st s₁ (mkF m_ 1 #[.val (.ref a)] [(.ref a)]) (fun t_ k_ => ?_) ?_
  · refine XS.aloadN X0.here hx rfl (hb hby dprog_11_method_4_code_0) rfl rfl ?_
    show Steps p_.tables e_ below (s₁.setTop (mkF m_ 1 #[.val (.ref a)] [(.ref a)])) t_
    exact k_
  obtain ⟨T1, X1, e1, st1⟩ := getF X0 hx hZ hown (host := "") (Or.inl (hw _ (List.mem_of_getElem? (i := 47) rfl))) Via.refl e0 F_allowed_a (g := (mkF m_ 1 #[.val (.ref a)] [(.ref a)])) rfl rfl (hb hby dprog_11_method_4_code_1)
  refine own_st T1 (mkF m_ 4 #[.val (.ref a)] [(.long al)]) st1 ?_
  refine own_st T1 (mkF m_ 5 #[.val (.ref a)] [(.ref a), (.long al)]) (fun t_ k_ => ?_) ?_
  · refine XS.aloadN X1.here hx rfl (hb hby dprog_11_method_4_code_4) rfl rfl ?_
    show Steps p_.tables e_ below (T1.setTop (mkF m_ 5 #[.val (.ref a)] [(.ref a), (.long al)])) t_
    exact k_
  obtain ⟨T2, X2, e2, st2⟩ := getF X1 hx hZ hown (host := "") (Or.inl (hw _ (List.mem_of_getElem? (i := 40) rfl))) Via.refl e1 F_denied_a (g := (mkF m_ 5 #[.val (.ref a)] [(.ref a), (.long al)])) rfl rfl (hb hby dprog_11_method_4_code_5)
  refine own_st T2 (mkF m_ 8 #[.val (.ref a)] [(.long dn), (.long al)]) st2 ?_
  refine own_st T2 (mkF m_ 10 #[.val (.ref a)] [(.ref a), (.long (al + dn))]) (fun t_ k_ => ?_) ?_
  · refine XS.ladd X2.here hx rfl (hb hby dprog_11_method_4_code_8) rfl ?_
    show Steps p_.tables e_ below (T2.setTop (mkF m_ 9 #[.val (.ref a)] [(.long (al + dn))])) t_
    refine XS.aloadN X2.here hx rfl (hb hby dprog_11_method_4_code_9) rfl rfl ?_
    show Steps p_.tables e_ below (T2.setTop (mkF m_ 10 #[.val (.ref a)] [(.ref a), (.long (al + dn))])) t_
    exact k_
  obtain ⟨T3, X3, e3, st3⟩ := getF X2 hx hZ hown (host := "") (Or.inl (hw _ (List.mem_of_getElem? (i := 60) rfl))) Via.refl e2 F_rejected_a (g := (mkF m_ 10 #[.val (.ref a)] [(.ref a), (.long (al + dn))])) rfl rfl (hb hby dprog_11_method_4_code_10)
  refine own_st T3 (mkF m_ 13 #[.val (.ref a)] [(.long rj), (.long (al + dn))]) st3 ?_
  refine own_st T3 (mkF m_ 14 #[.val (.ref a)] [(.long ((al + dn) + rj))]) (fun t_ k_ => ?_) ?_
  · refine XS.ladd X3.here hx rfl (hb hby dprog_11_method_4_code_13) rfl ?_
    show Steps p_.tables e_ below (T3.setTop (mkF m_ 14 #[.val (.ref a)] [(.long ((al + dn) + rj))])) t_
    exact k_
  refine own_retJ X3 hx hlk hret (hb hby dprog_11_method_4_code_14) (by decide) (by decide) ?_
  rw [e3]
  exact ⟨rfl, N0, rfl⟩
theorem dprog_11_method_2_code_0 : decode prog_11_method_2_code 0 = .ok (.iload_n 1, 1) := by decide +kernel
theorem dprog_11_method_2_code_1 : decode prog_11_method_2_code 1 = .ok (.ifCond .eq 16, 3) := by decide +kernel
theorem dprog_11_method_2_code_17 : decode prog_11_method_2_code 17 = .ok (.aload_n 0, 1) := by decide +kernel
theorem dprog_11_method_2_code_18 : decode prog_11_method_2_code 18 = .ok (.dup, 1) := by decide +kernel
theorem dprog_11_method_2_code_19 : decode prog_11_method_2_code 19 = .ok (.getfield 20, 3) := by decide +kernel
theorem dprog_11_method_2_code_22 : decode prog_11_method_2_code 22 = .ok (.lconst 1, 1) := by decide +kernel
theorem dprog_11_method_2_code_23 : decode prog_11_method_2_code 23 = .ok (.ladd, 1) := by decide +kernel
theorem dprog_11_method_2_code_24 : decode prog_11_method_2_code 24 = .ok (.putfield 20, 3) := by decide +kernel
theorem dprog_11_method_2_code_27 : decode prog_11_method_2_code 27 = .ok (.return_, 1) := by decide +kernel
theorem dprog_11_method_2_code_4 : decode prog_11_method_2_code 4 = .ok (.aload_n 0, 1) := by decide +kernel
theorem dprog_11_method_2_code_5 : decode prog_11_method_2_code 5 = .ok (.dup, 1) := by decide +kernel
theorem dprog_11_method_2_code_6 : decode prog_11_method_2_code 6 = .ok (.getfield 16, 3) := by decide +kernel
theorem dprog_11_method_2_code_9 : decode prog_11_method_2_code 9 = .ok (.lconst 1, 1) := by decide +kernel
theorem dprog_11_method_2_code_10 : decode prog_11_method_2_code 10 = .ok (.ladd, 1) := by decide +kernel
theorem dprog_11_method_2_code_11 : decode prog_11_method_2_code 11 = .ok (.putfield 16, 3) := by decide +kernel
theorem dprog_11_method_2_code_14 : decode prog_11_method_2_code 14 = .ok (.goto 13, 3) := by decide +kernel
theorem ef_rm6 (m_ : MethodId) (a : Addr) (z : Int32) : entryFrame m_ #[(.ref a), (.int z)] 2 = mkF m_ 0 #[.val (.ref a), .val (.int z)] [] := by first | (simp [entryFrame, mkF, argsToLocals, Value.category]; done) | rfl
set_option maxRecDepth 65536 in
set_option maxHeartbeats 40000000 in
theorem rm6 (l : Launch) (Z : State) (a0 : Array Value) (hw : ∀ d ∈ tables_1, d.before a0 Z = true) (a : Addr) (z : Int32) (al dn rj : Int64) (h0 : Heap) (n0 : Nat) (Z0 : n0 ≤ h0.size) (F_allowed_a : Fld Z h0 a "com/example/keep_count/keepcount/api/BatchResult" "allowed" "J" (.long al)) (F_denied_a : Fld Z h0 a "com/example/keep_count/keepcount/api/BatchResult" "denied" "J" (.long dn)) (F_rejected_a : Fld Z h0 a "com/example/keep_count/keepcount/api/BatchResult" "rejected" "J" (.long rj)) (E_a : Exa Z h0 a "com/example/keep_count/keepcount/api/BatchResult") (g_a : n0 ≤ a) :
    own_Met l Z (⟨"com/example/keep_count/keepcount/api/BatchResult", "checked", "(Z)V"⟩ : MethodName) prog_11_method_2_code 2 none ({ frames := 0, cells := 0, slots := 0, locals := 0 } : Room) #[(.ref a), (.int z)] h0 (fun v h L => v = none ∧ Fr n0 L ∧ Keep h0 h [a] ∧ Fld Z h a "com/example/keep_count/keepcount/api/BatchResult" "allowed" "J" (.long (own_al z al)) ∧ Fld Z h a "com/example/keep_count/keepcount/api/BatchResult" "denied" "J" (.long (own_de z dn)) ∧ Fld Z h a "com/example/keep_count/keepcount/api/BatchResult" "rejected" "J" (.long rj)) := by
  refine own_body #[.val (.ref a), .val (.int z)] (plainFor_of_name own_pn3) (fun m_ => ef_rm6 m_ a z) ?_
  intro p_ e_ s_ m_ below meth c_ s₁ X0 hx hby hml hret hlk hZ hown hnm e0
  have N0 := Fr.nil n0
  have KP := Keep.refl h0 [a]
  show own_Out p_ e_ below s_ _ _ _ s₁ (mkF m_ 0 #[.val (.ref a), .val (.int z)] [])
  refine own_st s₁ (mkF m_ 1 #[.val (.ref a), .val (.int z)] [(.int z)]) (fun t_ k_ => ?_) ?_
  · refine XS.iloadN X0.here hx rfl (hb hby dprog_11_method_2_code_0) rfl ?_
    show Steps p_.tables e_ below (s₁.setTop (mkF m_ 1 #[.val (.ref a), .val (.int z)] [(.int z)])) t_
    exact k_
  by_cases hc1 : z = (0 : Int32)
  · refine own_st s₁ (mkF m_ 17 #[.val (.ref a), .val (.int z)] []) (fun t_ k_ => XS.ifYes X0.here hx rfl (pc0 := 1) (pc' := 17) rfl (hb hby dprog_11_method_2_code_1) rfl ((if0 _ _).trans (teq hc1).1) (by decide) (by decide) k_) ?_
    refine own_st s₁ (mkF m_ 19 #[.val (.ref a), .val (.int z)] [(.ref a), (.ref a)]) (fun t_ k_ => ?_) ?_
    · refine XS.aloadN X0.here hx rfl (hb hby dprog_11_method_2_code_17) rfl rfl ?_
      show Steps p_.tables e_ below (s₁.setTop (mkF m_ 18 #[.val (.ref a), .val (.int z)] [(.ref a)])) t_
      refine XS.dup X0.here hx rfl (hb hby dprog_11_method_2_code_18) rfl rfl ?_
      show Steps p_.tables e_ below (s₁.setTop (mkF m_ 19 #[.val (.ref a), .val (.int z)] [(.ref a), (.ref a)])) t_
      exact k_
    obtain ⟨T1, X1, e1, st1⟩ := getF X0 hx hZ hown (host := "") (Or.inl (hw _ (List.mem_of_getElem? (i := 40) rfl))) Via.refl e0 F_denied_a (g := (mkF m_ 19 #[.val (.ref a), .val (.int z)] [(.ref a), (.ref a)])) rfl rfl (hb hby dprog_11_method_2_code_19)
    refine own_st T1 (mkF m_ 22 #[.val (.ref a), .val (.int z)] [(.long dn), (.ref a)]) st1 ?_
    refine own_st T1 (mkF m_ 24 #[.val (.ref a), .val (.int z)] [(.long (dn + (1 : Int64))), (.ref a)]) (fun t_ k_ => ?_) ?_
    · refine XS.lconst X1.here hx rfl (hb hby dprog_11_method_2_code_22) ?_
      show Steps p_.tables e_ below (T1.setTop (mkF m_ 23 #[.val (.ref a), .val (.int z)] [(.long (1 : Int64)), (.long dn), (.ref a)])) t_
      refine XS.ladd X1.here hx rfl (hb hby dprog_11_method_2_code_23) rfl ?_
      show Steps p_.tables e_ below (T1.setTop (mkF m_ 24 #[.val (.ref a), .val (.int z)] [(.long (dn + (1 : Int64))), (.ref a)])) t_
      exact k_
    obtain ⟨T2, h2, X2, e2, W2, st2⟩ := putF X1 hx hZ hown (host := "") (Or.inl (hw _ (List.mem_of_getElem? (i := 40) rfl))) Via.refl e1 F_denied_a E_a (Or.inl (hw _ (List.mem_of_getElem? (i := 41) rfl))) (hw _ (List.mem_of_getElem? (i := 1) rfl)) (ty := .long) (by decide) rfl rfl (g := (mkF m_ 24 #[.val (.ref a), .val (.int z)] [(.long (dn + (1 : Int64))), (.ref a)])) rfl rfl (hb hby dprog_11_method_2_code_24)
    have N2 := Fr.snoc X2 N0 g_a
    replace Z0 : n0 ≤ h2.size := W2.size ▸ Z0
    replace KP := KP.wr W2 (Or.inl (List.mem_of_getElem? (i := 0) rfl))
    replace F_allowed_a := F_allowed_a.other W2 (Or.inr (slot_ne (Or.inl (hw _ (List.mem_of_getElem? (i := 48) rfl))) (Or.inl (hw _ (List.mem_of_getElem? (i := 41) rfl))) (by decide) (t := .long) (t' := .long) (by decide) (by decide)))
    replace F_rejected_a := F_rejected_a.other W2 (Or.inr (slot_ne (Or.inl (hw _ (List.mem_of_getElem? (i := 61) rfl))) (Or.inl (hw _ (List.mem_of_getElem? (i := 41) rfl))) (by decide) (t := .long) (t' := .long) (by decide) (by decide)))
    replace E_a := E_a.wr W2
    replace F_denied_a := F_denied_a.same W2
    refine own_st T2 (mkF m_ 27 #[.val (.ref a), .val (.int z)] []) st2 ?_
    refine own_ret0 X2 hx hlk hret (hb hby dprog_11_method_2_code_27) (by decide) (by decide) ?_
    rw [e2]
    have z1 : own_al z al = al := by simp only [own_al, if_pos hc1]
    have z2 : own_de z dn = (dn + (1 : Int64)) := by simp only [own_de, if_pos hc1]
    rw [z1, z2]
    exact ⟨rfl, N2, KP, F_allowed_a, F_denied_a, F_rejected_a⟩
  · refine own_st s₁ (mkF m_ 4 #[.val (.ref a), .val (.int z)] []) (fun t_ k_ => XS.ifNo X0.here hx rfl (hb hby dprog_11_method_2_code_1) rfl ((if0 _ _).trans (feq hc1).1) k_) ?_
    refine own_st s₁ (mkF m_ 6 #[.val (.ref a), .val (.int z)] [(.ref a), (.ref a)]) (fun t_ k_ => ?_) ?_
    · refine XS.aloadN X0.here hx rfl (hb hby dprog_11_method_2_code_4) rfl rfl ?_
      show Steps p_.tables e_ below (s₁.setTop (mkF m_ 5 #[.val (.ref a), .val (.int z)] [(.ref a)])) t_
      refine XS.dup X0.here hx rfl (hb hby dprog_11_method_2_code_5) rfl rfl ?_
      show Steps p_.tables e_ below (s₁.setTop (mkF m_ 6 #[.val (.ref a), .val (.int z)] [(.ref a), (.ref a)])) t_
      exact k_
    obtain ⟨T3, X3, e3, st3⟩ := getF X0 hx hZ hown (host := "") (Or.inl (hw _ (List.mem_of_getElem? (i := 47) rfl))) Via.refl e0 F_allowed_a (g := (mkF m_ 6 #[.val (.ref a), .val (.int z)] [(.ref a), (.ref a)])) rfl rfl (hb hby dprog_11_method_2_code_6)
    refine own_st T3 (mkF m_ 9 #[.val (.ref a), .val (.int z)] [(.long al), (.ref a)]) st3 ?_
    refine own_st T3 (mkF m_ 11 #[.val (.ref a), .val (.int z)] [(.long (al + (1 : Int64))), (.ref a)]) (fun t_ k_ => ?_) ?_
    · refine XS.lconst X3.here hx rfl (hb hby dprog_11_method_2_code_9) ?_
      show Steps p_.tables e_ below (T3.setTop (mkF m_ 10 #[.val (.ref a), .val (.int z)] [(.long (1 : Int64)), (.long al), (.ref a)])) t_
      refine XS.ladd X3.here hx rfl (hb hby dprog_11_method_2_code_10) rfl ?_
      show Steps p_.tables e_ below (T3.setTop (mkF m_ 11 #[.val (.ref a), .val (.int z)] [(.long (al + (1 : Int64))), (.ref a)])) t_
      exact k_
    obtain ⟨T4, h4, X4, e4, W4, st4⟩ := putF X3 hx hZ hown (host := "") (Or.inl (hw _ (List.mem_of_getElem? (i := 47) rfl))) Via.refl e3 F_allowed_a E_a (Or.inl (hw _ (List.mem_of_getElem? (i := 48) rfl))) (hw _ (List.mem_of_getElem? (i := 1) rfl)) (ty := .long) (by decide) rfl rfl (g := (mkF m_ 11 #[.val (.ref a), .val (.int z)] [(.long (al + (1 : Int64))), (.ref a)])) rfl rfl (hb hby dprog_11_method_2_code_11)
    have N4 := Fr.snoc X4 N0 g_a
    replace Z0 : n0 ≤ h4.size := W4.size ▸ Z0
    replace KP := KP.wr W4 (Or.inl (List.mem_of_getElem? (i := 0) rfl))
    replace F_denied_a := F_denied_a.other W4 (Or.inr (slot_ne (Or.inl (hw _ (List.mem_of_getElem? (i := 41) rfl))) (Or.inl (hw _ (List.mem_of_getElem? (i := 48) rfl))) (by decide) (t := .long) (t' := .long) (by decide) (by decide)))
    replace F_rejected_a := F_rejected_a.other W4 (Or.inr (slot_ne (Or.inl (hw _ (List.mem_of_getElem? (i := 61) rfl))) (Or.inl (hw _ (List.mem_of_getElem? (i := 48) rfl))) (by decide) (t := .long) (t' := .long) (by decide) (by decide)))
    replace E_a := E_a.wr W4
    replace F_allowed_a := F_allowed_a.same W4
    refine own_st T4 (mkF m_ 14 #[.val (.ref a), .val (.int z)] []) st4 ?_
    refine own_st T4 (mkF m_ 27 #[.val (.ref a), .val (.int z)] []) (fun t_ k_ => ?_) ?_
    · refine XS.goto X4.here hx rfl (pc0 := 14) (pc' := 27) rfl (hb hby dprog_11_method_2_code_14) (by decide) (by decide) ?_
      show Steps p_.tables e_ below (T4.setTop (mkF m_ 27 #[.val (.ref a), .val (.int z)] [])) t_
      exact k_
    refine own_ret0 X4 hx hlk hret (hb hby dprog_11_method_2_code_27) (by decide) (by decide) ?_
    rw [e4]
    have z1 : own_al z al = (al + (1 : Int64)) := by simp only [own_al, if_neg hc1]
    have z2 : own_de z dn = dn := by simp only [own_de, if_neg hc1]
    rw [z1, z2]
    exact ⟨rfl, N4, KP, F_allowed_a, F_denied_a, F_rejected_a⟩
theorem djdk_43_method_3_code_0 : decode jdk_43_method_3_code 0 = .ok (.iload_n 0, 1) := by decide +kernel
theorem djdk_43_method_3_code_1 : decode jdk_43_method_3_code 1 = .ok (.sipush 255, 3) := by decide +kernel
theorem djdk_43_method_3_code_4 : decode jdk_43_method_3_code 4 = .ok (.if_icmp .gt 7, 3) := by decide +kernel
theorem djdk_43_method_3_code_11 : decode jdk_43_method_3_code 11 = .ok (.iconst 0, 1) := by decide +kernel
theorem djdk_43_method_3_code_7 : decode jdk_43_method_3_code 7 = .ok (.iconst 1, 1) := by decide +kernel
theorem djdk_43_method_3_code_8 : decode jdk_43_method_3_code 8 = .ok (.goto 4, 3) := by decide +kernel
theorem djdk_43_method_3_code_12 : decode jdk_43_method_3_code 12 = .ok (.ireturn, 1) := by decide +kernel
theorem ef_rm12 (m_ : MethodId) (ch : Int32) : entryFrame m_ #[(.int ch)] 1 = mkF m_ 0 #[.val (.int ch)] [] := by first | (simp [entryFrame, mkF, argsToLocals, Value.category]; done) | rfl
theorem own_pn4 : plainName "java/lang/StringLatin1" = true := by first | (simp [plainName, overriddenIn]; done) | decide +kernel
def f12 (ch : Int32) : Int32 := (if (255 : Int32) < ch then (0 : Int32) else 1)
set_option maxRecDepth 65536 in
set_option maxHeartbeats 40000000 in
theorem rm12 (l : Launch) (Z : State) (a0 : Array Value) (hw : ∀ d ∈ tables_1, d.before a0 Z = true) (ch : Int32) (h0 : Heap) (n0 : Nat) (Z0 : n0 ≤ h0.size)  :
    own_Met l Z (⟨"java/lang/StringLatin1", "canEncode", "(C)Z"⟩ : MethodName) jdk_43_method_3_code 1 (some .boolean) ({ frames := 0, cells := 0, slots := 0, locals := 0 } : Room) #[(.int ch)] h0 (fun v h L => v = some (.int (f12 ch)) ∧ Fr n0 L ∧ h = h0) := by
  refine own_body #[.val (.int ch)] (plainFor_of_name own_pn4) (fun m_ => ef_rm12 m_ ch) ?_
  intro p_ e_ s_ m_ below meth c_ s₁ X0 hx hby hml hret hlk hZ hown hnm e0
  have N0 := Fr.nil n0
  show own_Out p_ e_ below s_ _ _ _ s₁ (mkF m_ 0 #[.val (.int ch)] [])
  refine own_st s₁ (mkF m_ 12 #[.val (.int ch)] [(.int (if (255 : Int32) < ch then (0 : Int32) else 1))]) (fun t_ k_ => ?_) ?_
  · refine XS.iloadN X0.here hx rfl (hb hby djdk_43_method_3_code_0) rfl ?_
    show Steps p_.tables e_ below (s₁.setTop (mkF m_ 1 #[.val (.int ch)] [(.int ch)])) t_
    refine XS.sipush X0.here hx rfl (hb hby djdk_43_method_3_code_1) ?_
    show Steps p_.tables e_ below (s₁.setTop (mkF m_ 4 #[.val (.int ch)] [(.int (255 : Int32)), (.int ch)])) t_
    have jn4 : ∀ t_, Steps p_.tables e_ below (s₁.setTop (mkF m_ 12 #[.val (.int ch)] [(.int (if (255 : Int32) < ch then (0 : Int32) else 1))])) t_ → Steps p_.tables e_ below (s₁.setTop (mkF m_ 4 #[.val (.int ch)] [(.int (255 : Int32)), (.int ch)])) t_ := by
      intro t_ k_
      by_cases hc4 : (255 : Int32) < ch
      · refine XS.icmpYes X0.here hx rfl (pc0 := 4) (pc' := 11) rfl (hb hby djdk_43_method_3_code_4) rfl (tlt hc4).2.2.1 (by decide) (by decide) ?_
        show Steps p_.tables e_ below (s₁.setTop (mkF m_ 11 #[.val (.int ch)] [])) t_
        refine XS.iconst X0.here hx rfl (hb hby djdk_43_method_3_code_11) ?_
        show Steps p_.tables e_ below (s₁.setTop (mkF m_ 12 #[.val (.int ch)] [(.int (0 : Int32))])) t_
        simp only [if_pos hc4] at k_ ⊢
        exact k_
      · refine XS.icmpNo X0.here hx rfl (hb hby djdk_43_method_3_code_4) rfl (flt hc4).2.2.1 ?_
        show Steps p_.tables e_ below (s₁.setTop (mkF m_ 7 #[.val (.int ch)] [])) t_
        refine XS.iconst X0.here hx rfl (hb hby djdk_43_method_3_code_7) ?_
        show Steps p_.tables e_ below (s₁.setTop (mkF m_ 8 #[.val (.int ch)] [(.int (1 : Int32))])) t_
        refine XS.goto X0.here hx rfl (pc0 := 8) (pc' := 12) rfl (hb hby djdk_43_method_3_code_8) (by decide) (by decide) ?_
        show Steps p_.tables e_ below (s₁.setTop (mkF m_ 12 #[.val (.int ch)] [(.int (1 : Int32))])) t_
        simp only [if_neg hc4] at k_ ⊢
        exact k_
    refine jn4 _ ?_
    show Steps p_.tables e_ below (s₁.setTop (mkF m_ 12 #[.val (.int ch)] [(.int (if (255 : Int32) < ch then (0 : Int32) else 1))])) t_
    exact k_
  refine own_retN X0 hx hlk (t := .boolean) hret (by simp) (hb hby djdk_43_method_3_code_12) (by decide) (by decide) ?_
  rw [e0]
  have hz : nar .boolean (if (255 : Int32) < ch then (0 : Int32) else 1) = (if (255 : Int32) < ch then (0 : Int32) else 1) := own_nz (by first | exact Or.inl rfl | exact Or.inr rfl | (repeat' split) <;> first | exact Or.inl rfl | exact Or.inr rfl)
  rw [hz]
  exact ⟨by simp only [f12], N0, rfl⟩
theorem own_ce {ch : Int32} (h : ch.toInt ≤ 255) : ¬ f12 ch = (0 : Int32) := by
  unfold f12
  have l : (255 : Int32).toInt = 255 := rfl
  rw [if_neg (by rw [Int32.lt_iff_toInt_lt]; omega)]; decide

theorem djdk_43_method_46_code_0 : decode jdk_43_method_46_code 0 = .ok (.iconst 1, 1) := by decide +kernel
theorem djdk_43_method_46_code_1 : decode jdk_43_method_46_code 1 = .ok (.newarray .byte, 2) := by decide +kernel
theorem djdk_43_method_46_code_3 : decode jdk_43_method_46_code 3 = .ok (.dup, 1) := by decide +kernel
theorem djdk_43_method_46_code_4 : decode jdk_43_method_46_code 4 = .ok (.iconst 0, 1) := by decide +kernel
theorem djdk_43_method_46_code_5 : decode jdk_43_method_46_code 5 = .ok (.iload_n 0, 1) := by decide +kernel
theorem djdk_43_method_46_code_6 : decode jdk_43_method_46_code 6 = .ok (.i2b, 1) := by decide +kernel
theorem djdk_43_method_46_code_7 : decode jdk_43_method_46_code 7 = .ok (.bastore, 1) := by decide +kernel
theorem djdk_43_method_46_code_8 : decode jdk_43_method_46_code 8 = .ok (.areturn, 1) := by decide +kernel
theorem ef_rm13 (m_ : MethodId) (ch : Int32) : entryFrame m_ #[(.int ch)] 1 = mkF m_ 0 #[.val (.int ch)] [] := by first | (simp [entryFrame, mkF, argsToLocals, Value.category]; done) | rfl
set_option maxRecDepth 65536 in
set_option maxHeartbeats 40000000 in
theorem rm13 (l : Launch) (Z : State) (a0 : Array Value) (hw : ∀ d ∈ tables_1, d.before a0 Z = true) (ch : Int32) (h0 : Heap) (n0 : Nat) (Z0 : n0 ≤ h0.size)  :
    own_Met l Z (⟨"java/lang/StringLatin1", "toBytes", "(C)[B"⟩ : MethodName) jdk_43_method_46_code 1 (some (.array .byte)) ({ frames := 0, cells := 1, slots := 1, locals := 0 } : Room) #[(.int ch)] h0 (fun v h L => ∃ b : Addr, v = some (.ref b) ∧ n0 ≤ b ∧ h0.size ≤ b ∧ Fr n0 L ∧ Keep h0 h []) := by
  refine own_body #[.val (.int ch)] (plainFor_of_name own_pn4) (fun m_ => ef_rm13 m_ ch) ?_
  intro p_ e_ s_ m_ below meth c_ s₁ X0 hx hby hml hret hlk hZ hown hnm e0
  have N0 := Fr.nil n0
  have KP := Keep.refl h0 []
  show own_Out p_ e_ below s_ _ _ _ s₁ (mkF m_ 0 #[.val (.int ch)] [])
  refine own_st s₁ (mkF m_ 1 #[.val (.int ch)] [(.int (1 : Int32))]) (fun t_ k_ => ?_) ?_
  · refine XS.iconst X0.here hx rfl (hb hby djdk_43_method_46_code_0) ?_
    show Steps p_.tables e_ below (s₁.setTop (mkF m_ 1 #[.val (.int ch)] [(.int (1 : Int32))])) t_
    exact k_
  obtain ⟨T1, h1, k1, X1, e1, E1, A1, st1⟩ := newP X0 hx hZ (hw _ (List.mem_of_getElem? (i := 81) rfl)) e0 (g := (mkF m_ 1 #[.val (.int ch)] [(.int (1 : Int32))])) rfl (hb hby djdk_43_method_46_code_1) rfl (by decide) (cap := 1) (by decide) (by decide) (by decide) (by decide)
  obtain ⟨b1, g1⟩ : ∃ z, z = h0.size := ⟨_, rfl⟩
  rw [← g1] at A1 st1
  have g_b1 : n0 ≤ b1 := g1 ▸ Z0
  have sz_b1 : h0.size ≤ b1 := g1 ▸ KP.1
  replace KP := KP.ext E1
  replace Z0 : n0 ≤ h1.size := Nat.le_trans Z0 E1.1
  have A_b1 : own_A Z h1 b1 k1 .byte 1 (fun x_ => .int (([(0 : Int32)] : List Int32).getD x_ 0)) := own_A.newLI A1 (by decide) 1 (by decide) rfl
  refine own_st T1 (mkF m_ 3 #[.val (.int ch)] [(.ref b1)]) st1 ?_
  refine own_st T1 (mkF m_ 7 #[.val (.int ch)] [(.int (ch.toInt8.toInt32)), (.int (0 : Int32)), (.ref b1), (.ref b1)]) (fun t_ k_ => ?_) ?_
  · refine XS.dup X1.here hx rfl (hb hby djdk_43_method_46_code_3) rfl rfl ?_
    show Steps p_.tables e_ below (T1.setTop (mkF m_ 4 #[.val (.int ch)] [(.ref b1), (.ref b1)])) t_
    refine XS.iconst X1.here hx rfl (hb hby djdk_43_method_46_code_4) ?_
    show Steps p_.tables e_ below (T1.setTop (mkF m_ 5 #[.val (.int ch)] [(.int (0 : Int32)), (.ref b1), (.ref b1)])) t_
    refine XS.iloadN X1.here hx rfl (hb hby djdk_43_method_46_code_5) rfl ?_
    show Steps p_.tables e_ below (T1.setTop (mkF m_ 6 #[.val (.int ch)] [(.int ch), (.int (0 : Int32)), (.ref b1), (.ref b1)])) t_
    refine XS.i2b X1.here hx rfl (hb hby djdk_43_method_46_code_6) rfl ?_
    show Steps p_.tables e_ below (T1.setTop (mkF m_ 7 #[.val (.int ch)] [(.int (ch.toInt8.toInt32)), (.int (0 : Int32)), (.ref b1), (.ref b1)])) t_
    exact k_
  obtain ⟨T2, h2, X2, e2, W2, st2⟩ := own_stB X1 hx hZ e1 A_b1 (ch.toInt8.toInt32) (own_nb _) 0 (by decide) (by decide) (j := (0 : Int32)) (x := (ch.toInt8.toInt32)) (Ls := #[.val (.int ch)]) (rest := [(.ref b1)]) (hb hby djdk_43_method_46_code_7)
  have N2 := Fr.snoc X2 N0 g_b1
  replace Z0 : n0 ≤ h2.size := W2.size ▸ Z0
  replace KP := KP.wr W2 (Or.inr sz_b1)
  replace A_b1 : own_A Z h2 b1 k1 .byte 1 (fun x_ => .int (([(ch.toInt8.toInt32)] : List Int32).getD x_ 0)) := A_b1.setLI (by decide) (Nat.le_of_ble_eq_true rfl) W2
  refine own_st T2 (mkF m_ 8 #[.val (.int ch)] [(.ref b1)]) st2 ?_
  refine own_retA X2 hx hlk hret rfl rfl (hb hby djdk_43_method_46_code_8) (by decide) (by decide) ?_
  rw [e2]
  exact ⟨b1, rfl, g_b1, sz_b1, N2, KP⟩
theorem djdk_42_method_151_code_0 : decode jdk_42_method_151_code 0 = .ok (.aload_n 0, 1) := by decide +kernel
theorem djdk_42_method_151_code_1 : decode jdk_42_method_151_code 1 = .ok (.invokespecial 1, 3) := by decide +kernel
theorem djdk_42_method_151_code_4 : decode jdk_42_method_151_code 4 = .ok (.aload_n 0, 1) := by decide +kernel
theorem djdk_42_method_151_code_5 : decode jdk_42_method_151_code 5 = .ok (.aload_n 1, 1) := by decide +kernel
theorem djdk_42_method_151_code_6 : decode jdk_42_method_151_code 6 = .ok (.putfield 9, 3) := by decide +kernel
theorem djdk_42_method_151_code_9 : decode jdk_42_method_151_code 9 = .ok (.aload_n 0, 1) := by decide +kernel
theorem djdk_42_method_151_code_10 : decode jdk_42_method_151_code 10 = .ok (.iload_n 2, 1) := by decide +kernel
theorem djdk_42_method_151_code_11 : decode jdk_42_method_151_code 11 = .ok (.putfield 15, 3) := by decide +kernel
theorem djdk_42_method_151_code_14 : decode jdk_42_method_151_code 14 = .ok (.return_, 1) := by decide +kernel
theorem ef_rm14 (m_ : MethodId) (a : Addr) (u : Addr) : entryFrame m_ #[(.ref a), (.ref u), (.int (0 : Int32))] 3 = mkF m_ 0 #[.val (.ref a), .val (.ref u), .val (.int (0 : Int32))] [] := by first | (simp [entryFrame, mkF, argsToLocals, Value.category]; done) | rfl
theorem own_pn5 : plainName "java/lang/String" = true := by first | (simp [plainName, overriddenIn]; done) | decide +kernel
set_option maxRecDepth 65536 in
set_option maxHeartbeats 40000000 in
theorem rm14 (l : Launch) (Z : State) (a0 : Array Value) (hw : ∀ d ∈ tables_1, d.before a0 Z = true) (a : Addr) (u : Addr) (h0 : Heap) (n0 : Nat) (Z0 : n0 ≤ h0.size) (E_a : Exa Z h0 a "java/lang/String") (F_value_a : Fld Z h0 a "java/lang/String" "value" "[B" .null) (F_coder_a : Fld Z h0 a "java/lang/String" "coder" "B" (.int (0 : Int32))) (g_a : n0 ≤ a) :
    own_Met l Z (⟨"java/lang/String", "<init>", "([BB)V"⟩ : MethodName) jdk_42_method_151_code 3 none ({ frames := 1, cells := 0, slots := 0, locals := 12 } : Room) #[(.ref a), (.ref u), (.int (0 : Int32))] h0 (fun v h L => v = none ∧ Fr n0 L ∧ Keep h0 h [a] ∧ Exa Z h a "java/lang/String" ∧ Fld Z h a "java/lang/String" "value" "[B" (.ref u) ∧ Fld Z h a "java/lang/String" "coder" "B" (.int (0 : Int32))) := by
  refine own_body #[.val (.ref a), .val (.ref u), .val (.int (0 : Int32))] (plainFor_of_name own_pn5) (fun m_ => ef_rm14 m_ a u) ?_
  intro p_ e_ s_ m_ below meth c_ s₁ X0 hx hby hml hret hlk hZ hown hnm e0
  have N0 := Fr.nil n0
  have KP := Keep.refl h0 [a]
  show own_Out p_ e_ below s_ _ _ _ s₁ (mkF m_ 0 #[.val (.ref a), .val (.ref u), .val (.int (0 : Int32))] [])
  refine own_st s₁ (mkF m_ 1 #[.val (.ref a), .val (.ref u), .val (.int (0 : Int32))] [(.ref a)]) (fun t_ k_ => ?_) ?_
  · refine XS.aloadN X0.here hx rfl (hb hby djdk_42_method_151_code_0) rfl rfl ?_
    show Steps p_.tables e_ below (s₁.setTop (mkF m_ 1 #[.val (.ref a), .val (.ref u), .val (.int (0 : Int32))] [(.ref a)])) t_
    exact k_
  obtain ⟨T1, X1, e1, st1⟩ := initO X0 hx hZ hown (hw _ (List.mem_of_getElem? (i := 86) rfl)) (hw _ (List.mem_of_getElem? (i := 7) rfl)) (hw _ (List.mem_of_getElem? (i := 8) rfl)) e0 (g := (mkF m_ 1 #[.val (.ref a), .val (.ref u), .val (.int (0 : Int32))] [(.ref a)])) rfl (by rw [hml]; rfl) rfl (hb hby djdk_42_method_151_code_1) (by decide) (W := 0) (by show 2 * 0 + _ ≤ _; exact Nat.le_of_eq rfl) (by decide)
  refine own_st T1 (mkF m_ 4 #[.val (.ref a), .val (.ref u), .val (.int (0 : Int32))] []) st1 ?_
  refine own_st T1 (mkF m_ 6 #[.val (.ref a), .val (.ref u), .val (.int (0 : Int32))] [(.ref u), (.ref a)]) (fun t_ k_ => ?_) ?_
  · refine XS.aloadN X1.here hx rfl (hb hby djdk_42_method_151_code_4) rfl rfl ?_
    show Steps p_.tables e_ below (T1.setTop (mkF m_ 5 #[.val (.ref a), .val (.ref u), .val (.int (0 : Int32))] [(.ref a)])) t_
    refine XS.aloadN X1.here hx rfl (hb hby djdk_42_method_151_code_5) rfl rfl ?_
    show Steps p_.tables e_ below (T1.setTop (mkF m_ 6 #[.val (.ref a), .val (.ref u), .val (.int (0 : Int32))] [(.ref u), (.ref a)])) t_
    exact k_
  obtain ⟨T2, h2, X2, e2, W2, st2⟩ := putF X1 hx hZ hown (host := "") (Or.inl (hw _ (List.mem_of_getElem? (i := 87) rfl))) Via.refl e1 F_value_a E_a (Or.inr ⟨(hw _ (List.mem_of_getElem? (i := 88) rfl)), rfl, hnm⟩) (hw _ (List.mem_of_getElem? (i := 77) rfl)) (ty := (.array .byte)) (by decide) rfl rfl (g := (mkF m_ 6 #[.val (.ref a), .val (.ref u), .val (.int (0 : Int32))] [(.ref u), (.ref a)])) rfl rfl (hb hby djdk_42_method_151_code_6)
  have N2 := Fr.snoc X2 N0 g_a
  replace Z0 : n0 ≤ h2.size := W2.size ▸ Z0
  replace KP := KP.wr W2 (Or.inl (List.mem_of_getElem? (i := 0) rfl))
  replace E_a := E_a.wr W2
  replace F_coder_a := F_coder_a.other W2 (Or.inr (slot_ne (Or.inr (hw _ (List.mem_of_getElem? (i := 90) rfl))) (Or.inr (hw _ (List.mem_of_getElem? (i := 88) rfl))) (by decide) (t := .byte) (t' := (.array .byte)) (by decide) (by decide)))
  replace F_value_a := F_value_a.same W2
  refine own_st T2 (mkF m_ 9 #[.val (.ref a), .val (.ref u), .val (.int (0 : Int32))] []) st2 ?_
  refine own_st T2 (mkF m_ 11 #[.val (.ref a), .val (.ref u), .val (.int (0 : Int32))] [(.int (0 : Int32)), (.ref a)]) (fun t_ k_ => ?_) ?_
  · refine XS.aloadN X2.here hx rfl (hb hby djdk_42_method_151_code_9) rfl rfl ?_
    show Steps p_.tables e_ below (T2.setTop (mkF m_ 10 #[.val (.ref a), .val (.ref u), .val (.int (0 : Int32))] [(.ref a)])) t_
    refine XS.iloadN X2.here hx rfl (hb hby djdk_42_method_151_code_10) rfl ?_
    show Steps p_.tables e_ below (T2.setTop (mkF m_ 11 #[.val (.ref a), .val (.ref u), .val (.int (0 : Int32))] [(.int (0 : Int32)), (.ref a)])) t_
    exact k_
  obtain ⟨T3, h3, X3, e3, W3, st3⟩ := putFN X2 hx hZ hown (hw _ (List.mem_of_getElem? (i := 89) rfl)) Via.refl e2 F_coder_a E_a (Or.inr ⟨(hw _ (List.mem_of_getElem? (i := 90) rfl)), rfl, hnm⟩) (hw _ (List.mem_of_getElem? (i := 77) rfl)) (ty := .byte) (v' := (.int (0 : Int32))) (by decide) rfl rfl (g := (mkF m_ 11 #[.val (.ref a), .val (.ref u), .val (.int (0 : Int32))] [(.int (0 : Int32)), (.ref a)])) rfl rfl (hb hby djdk_42_method_151_code_11)
  have N3 := Fr.snoc X3 N2 g_a
  replace Z0 : n0 ≤ h3.size := W3.size ▸ Z0
  replace KP := KP.wr W3 (Or.inl (List.mem_of_getElem? (i := 0) rfl))
  replace E_a := E_a.wr W3
  replace F_value_a := F_value_a.other W3 (Or.inr (slot_ne (Or.inr (hw _ (List.mem_of_getElem? (i := 88) rfl))) (Or.inr (hw _ (List.mem_of_getElem? (i := 90) rfl))) (by decide) (t := (.array .byte)) (t' := .byte) (by decide) (by decide)))
  replace F_coder_a := F_coder_a.same W3
  refine own_st T3 (mkF m_ 14 #[.val (.ref a), .val (.ref u), .val (.int (0 : Int32))] []) st3 ?_
  refine own_ret0 X3 hx hlk hret (hb hby djdk_42_method_151_code_14) (by decide) (by decide) ?_
  rw [e3]
  exact ⟨rfl, N3, KP, E_a, F_value_a, F_coder_a⟩
theorem djdk_42_method_139_code_0 : decode jdk_42_method_139_code 0 = .ok (.getstatic 38, 3) := by decide +kernel
theorem djdk_42_method_139_code_3 : decode jdk_42_method_139_code 3 = .ok (.ifCond .eq 23, 3) := by decide +kernel
theorem djdk_42_method_139_code_6 : decode jdk_42_method_139_code 6 = .ok (.iload_n 0, 1) := by decide +kernel
theorem own_pd1 : parseMethodDescriptor "(C)Z" = some ⟨[.char], some .boolean⟩ := by decide +kernel
theorem djdk_42_method_139_code_7 : decode jdk_42_method_139_code 7 = .ok (.invokestatic 1015, 3) := by decide +kernel
theorem djdk_42_method_139_code_10 : decode jdk_42_method_139_code 10 = .ok (.ifCond .eq 16, 3) := by decide +kernel
theorem djdk_42_method_139_code_13 : decode jdk_42_method_139_code 13 = .ok (.new 10, 3) := by decide +kernel
theorem djdk_42_method_139_code_16 : decode jdk_42_method_139_code 16 = .ok (.dup, 1) := by decide +kernel
theorem djdk_42_method_139_code_17 : decode jdk_42_method_139_code 17 = .ok (.iload_n 0, 1) := by decide +kernel
theorem own_pd2 : parseMethodDescriptor "(C)[B" = some ⟨[.char], some (.array .byte)⟩ := by decide +kernel
theorem djdk_42_method_139_code_18 : decode jdk_42_method_139_code 18 = .ok (.invokestatic 1018, 3) := by decide +kernel
theorem djdk_42_method_139_code_21 : decode jdk_42_method_139_code 21 = .ok (.iconst 0, 1) := by decide +kernel
theorem own_pd3 : parseMethodDescriptor "([BB)V" = some ⟨[(.array .byte), .byte], none⟩ := by decide +kernel
theorem djdk_42_method_139_code_22 : decode jdk_42_method_139_code 22 = .ok (.invokespecial 209, 3) := by decide +kernel
theorem djdk_42_method_139_code_25 : decode jdk_42_method_139_code 25 = .ok (.areturn, 1) := by decide +kernel
theorem ef_rm11 (m_ : MethodId) (ch : Int32) : entryFrame m_ #[(.int ch)] 1 = mkF m_ 0 #[.val (.int ch)] [] := by first | (simp [entryFrame, mkF, argsToLocals, Value.category]; done) | rfl
set_option maxRecDepth 65536 in
set_option maxHeartbeats 40000000 in
theorem rm11 (l : Launch) (Z : State) (a0 : Array Value) (hw : ∀ d ∈ tables_1, d.before a0 Z = true) (ch : Int32) (cs : Int32) (h0 : Heap) (n0 : Nat) (Z0 : n0 ≤ h0.size) (S_CS : Sta Z h0 "java/lang/String" "COMPACT_STRINGS" "Z" (.int cs)) (hcs : ¬ cs = (0 : Int32)) (hch : ch.toInt ≤ 255) :
    own_Met l Z (⟨"java/lang/String", "valueOf", "(C)Ljava/lang/String;"⟩ : MethodName) jdk_42_method_139_code 1 (some (.object "java/lang/String")) ({ frames := 2, cells := 2, slots := 5, locals := 27 } : Room) #[(.int ch)] h0 (fun v h L => ∃ b : Addr, v = some (.ref b) ∧ n0 ≤ b ∧ h0.size ≤ b ∧ Fr n0 L ∧ Keep h0 h []) := by
  refine own_body #[.val (.int ch)] (plainFor_of_name own_pn5) (fun m_ => ef_rm11 m_ ch) ?_
  intro p_ e_ s_ m_ below meth c_ s₁ X0 hx hby hml hret hlk hZ hown hnm e0
  have N0 := Fr.nil n0
  have KP := Keep.refl h0 []
  show own_Out p_ e_ below s_ _ _ _ s₁ (mkF m_ 0 #[.val (.int ch)] [])
  obtain ⟨T1, X1, e1, st1⟩ := getS2 X0 hx hZ hown (host := "") (Or.inl (hw _ (List.mem_of_getElem? (i := 71) rfl))) Via.refl e0 S_CS (g := (mkF m_ 0 #[.val (.int ch)] [])) rfl (hb hby djdk_42_method_139_code_0)
  refine own_st T1 (mkF m_ 3 #[.val (.int ch)] [(.int cs)]) st1 ?_
  refine own_st T1 (mkF m_ 7 #[.val (.int ch)] [(.int ch)]) (fun t_ k_ => ?_) ?_
  · refine XS.ifNo X1.here hx rfl (hb hby djdk_42_method_139_code_3) rfl ((if0 _ _).trans (feq (hcs : ¬ (cs = (0 : Int32)))).1) ?_
    show Steps p_.tables e_ below (T1.setTop (mkF m_ 6 #[.val (.int ch)] [])) t_
    refine XS.iloadN X1.here hx rfl (hb hby djdk_42_method_139_code_6) rfl ?_
    show Steps p_.tables e_ below (T1.setTop (mkF m_ 7 #[.val (.int ch)] [(.int ch)])) t_
    exact k_
  refine own_callS X1 hx hZ hown (hw _ (List.mem_of_getElem? (i := 72) rfl)) (hw _ (List.mem_of_getElem? (i := 73) rfl)) (hw _ (List.mem_of_getElem? (i := 74) rfl)) (hw _ (List.mem_of_getElem? (i := 75) rfl)) (by decide) [(.int ch)] [] (rm12 l Z a0 hw ch h0 n0 Z0) 0 (by decide) (by decide) e1 (by rw [hml]; rfl) (lenOf own_pd1 rfl) rfl (Nat.le_of_eq rfl) (hb hby djdk_42_method_139_code_7) (by decide) (by decide) ?_
  intro v2 T2 L2 X2 q2
  obtain ⟨rfl, N2q, e2⟩ := q2
  have N2 := Fr.app N0 N2q
  show own_Out p_ e_ below s_ _ _ _ T2 (mkF m_ 10 #[.val (.int ch)] [(.int (f12 ch))])
  refine own_st T2 (mkF m_ 13 #[.val (.int ch)] []) (fun t_ k_ => ?_) ?_
  · refine XS.ifNo X2.here hx rfl (hb hby djdk_42_method_139_code_10) rfl ((if0 _ _).trans (feq (own_ce hch : ¬ ((f12 ch) = (0 : Int32)))).1) ?_
    show Steps p_.tables e_ below (T2.setTop (mkF m_ 13 #[.val (.int ch)] [])) t_
    exact k_
  obtain ⟨T3, h3, X3, e3, E3, A3, D3, -, st3⟩ := newO X2 hx hZ hown (hw _ (List.mem_of_getElem? (i := 76) rfl)) (hw _ (List.mem_of_getElem? (i := 77) rfl)) (hw _ (List.mem_of_getElem? (i := 69) rfl)) e2 (g := (mkF m_ 13 #[.val (.int ch)] [])) rfl (hb hby djdk_42_method_139_code_13) (by decide) (by decide)
  obtain ⟨b3, g3⟩ : ∃ z, z = h0.size := ⟨_, rfl⟩
  rw [← g3] at A3 D3 st3
  have g_b3 : n0 ≤ b3 := g3 ▸ Z0
  have sz_b3 : h0.size ≤ b3 := g3 ▸ KP.1
  replace KP := KP.ext E3
  replace Z0 : n0 ≤ h3.size := Nat.le_trans Z0 E3.1
  have F_value_b3 : Fld Z h3 b3 "java/lang/String" "value" "[B" .null := D3 (Or.inr (hw _ (List.mem_of_getElem? (i := 88) rfl))) (ty := (.array .byte)) (by decide)
  have F_coder_b3 : Fld Z h3 b3 "java/lang/String" "coder" "B" (.int (0 : Int32)) := D3 (Or.inr (hw _ (List.mem_of_getElem? (i := 90) rfl))) (ty := .byte) (by decide)
  have E_b3 := A3
  refine own_st T3 (mkF m_ 16 #[.val (.int ch)] [(.ref b3)]) st3 ?_
  refine own_st T3 (mkF m_ 18 #[.val (.int ch)] [(.int ch), (.ref b3), (.ref b3)]) (fun t_ k_ => ?_) ?_
  · refine XS.dup X3.here hx rfl (hb hby djdk_42_method_139_code_16) rfl rfl ?_
    show Steps p_.tables e_ below (T3.setTop (mkF m_ 17 #[.val (.int ch)] [(.ref b3), (.ref b3)])) t_
    refine XS.iloadN X3.here hx rfl (hb hby djdk_42_method_139_code_17) rfl ?_
    show Steps p_.tables e_ below (T3.setTop (mkF m_ 18 #[.val (.int ch)] [(.int ch), (.ref b3), (.ref b3)])) t_
    exact k_
  refine own_callS X3 hx hZ hown (hw _ (List.mem_of_getElem? (i := 78) rfl)) (hw _ (List.mem_of_getElem? (i := 79) rfl)) (hw _ (List.mem_of_getElem? (i := 74) rfl)) (hw _ (List.mem_of_getElem? (i := 80) rfl)) (by decide) [(.int ch)] [(.ref b3), (.ref b3)] (rm13 l Z a0 hw ch h3 n0 Z0) 2 (by decide) (by decide) e3 (by rw [hml]; rfl) (lenOf own_pd2 rfl) rfl (Nat.le_of_eq rfl) (hb hby djdk_42_method_139_code_18) (by decide) (by decide) ?_
  intro v4 T4 L4 X4 q4
  obtain ⟨x4, rfl, g_x4, sz4, N4q, K4⟩ := q4
  have N4 := Fr.app N2 N4q
  replace KP := KP.trans K4 all0
  replace F_value_b3 := F_value_b3.keep K4 nin0
  replace F_coder_b3 := F_coder_b3.keep K4 nin0
  replace E_b3 := E_b3.keep K4
  replace Z0 : n0 ≤ T4.heap.size := Nat.le_trans Z0 K4.1
  show own_Out p_ e_ below s_ _ _ _ T4 (mkF m_ 21 #[.val (.int ch)] [(.ref x4), (.ref b3), (.ref b3)])
  refine own_st T4 (mkF m_ 22 #[.val (.int ch)] [(.int (0 : Int32)), (.ref x4), (.ref b3), (.ref b3)]) (fun t_ k_ => ?_) ?_
  · refine XS.iconst X4.here hx rfl (hb hby djdk_42_method_139_code_21) ?_
    show Steps p_.tables e_ below (T4.setTop (mkF m_ 22 #[.val (.int ch)] [(.int (0 : Int32)), (.ref x4), (.ref b3), (.ref b3)])) t_
    exact k_
  refine own_callC X4 hx hZ rfl hown (hw _ (List.mem_of_getElem? (i := 82) rfl)) (hw _ (List.mem_of_getElem? (i := 83) rfl)) (hw _ (List.mem_of_getElem? (i := 69) rfl)) (hw _ (List.mem_of_getElem? (i := 85) rfl)) (by decide) b3 [(.ref x4), (.int (0 : Int32))] [(.ref b3)] (rm14 l Z a0 hw b3 x4 T4.heap n0 Z0 E_b3 F_value_b3 F_coder_b3 g_b3) 1 (by decide) (by decide) rfl (by rw [hml]; rfl) (lenOf own_pd3 rfl) rfl (Nat.le_of_eq rfl) (hb hby djdk_42_method_139_code_22) (by decide) (by decide) ?_
  intro v5 T5 L5 X5 q5
  obtain ⟨rfl, N5q, K5, Eq5, Fq5_value, Fq5_coder⟩ := q5
  have N5 := Fr.app N4 N5q
  replace KP := KP.trans K5 (allS (Or.inr sz_b3) all0)
  -- F_value_b3 is dropped: written by the callee
  -- F_coder_b3 is dropped: written by the callee
  replace E_b3 := E_b3.keep K5
  replace Z0 : n0 ≤ T5.heap.size := Nat.le_trans Z0 K5.1
  have F_value_b3 := Fq5_value
  have F_coder_b3 := Fq5_coder
  show own_Out p_ e_ below s_ _ _ _ T5 (mkF m_ 25 #[.val (.int ch)] [(.ref b3)])
  refine own_retA X5 hx hlk hret rfl rfl (hb hby djdk_42_method_139_code_25) (by decide) (by decide) ?_
  exact ⟨b3, rfl, g_b3, sz_b3, N5, KP⟩
theorem djdk_30_method_1_code_0 : decode jdk_30_method_1_code 0 = .ok (.aload_n 0, 1) := by decide +kernel
theorem djdk_30_method_1_code_1 : decode jdk_30_method_1_code 1 = .ok (.invokespecial 1, 3) := by decide +kernel
theorem djdk_30_method_1_code_4 : decode jdk_30_method_1_code 4 = .ok (.return_, 1) := by decide +kernel
theorem ef_rm18 (m_ : MethodId) (a : Addr) : entryFrame m_ #[(.ref a)] 1 = mkF m_ 0 #[.val (.ref a)] [] := by first | (simp [entryFrame, mkF, argsToLocals, Value.category]; done) | rfl
theorem own_pn6 : plainName "java/lang/Record" = true := by first | (simp [plainName, overriddenIn]; done) | decide +kernel
set_option maxRecDepth 65536 in
set_option maxHeartbeats 40000000 in
theorem rm18 (l : Launch) (Z : State) (a0 : Array Value) (hw : ∀ d ∈ tables_1, d.before a0 Z = true) (a : Addr) (h0 : Heap) (n0 : Nat) (Z0 : n0 ≤ h0.size)  :
    own_Met l Z (⟨"java/lang/Record", "<init>", "()V"⟩ : MethodName) jdk_30_method_1_code 1 none ({ frames := 1, cells := 0, slots := 0, locals := 12 } : Room) #[(.ref a)] h0 (fun v h L => v = none ∧ Fr n0 L ∧ h = h0) := by
  refine own_body #[.val (.ref a)] (plainFor_of_name own_pn6) (fun m_ => ef_rm18 m_ a) ?_
  intro p_ e_ s_ m_ below meth c_ s₁ X0 hx hby hml hret hlk hZ hown hnm e0
  have N0 := Fr.nil n0
  show own_Out p_ e_ below s_ _ _ _ s₁ (mkF m_ 0 #[.val (.ref a)] [])
  refine own_st s₁ (mkF m_ 1 #[.val (.ref a)] [(.ref a)]) (fun t_ k_ => ?_) ?_
  · refine XS.aloadN X0.here hx rfl (hb hby djdk_30_method_1_code_0) rfl rfl ?_
    show Steps p_.tables e_ below (s₁.setTop (mkF m_ 1 #[.val (.ref a)] [(.ref a)])) t_
    exact k_
  obtain ⟨T1, X1, e1, st1⟩ := initO X0 hx hZ hown (hw _ (List.mem_of_getElem? (i := 118) rfl)) (hw _ (List.mem_of_getElem? (i := 7) rfl)) (hw _ (List.mem_of_getElem? (i := 8) rfl)) e0 (g := (mkF m_ 1 #[.val (.ref a)] [(.ref a)])) rfl (by rw [hml]; rfl) rfl (hb hby djdk_30_method_1_code_1) (by decide) (W := 0) (by show 2 * 0 + _ ≤ _; exact Nat.le_of_eq rfl) (by decide)
  refine own_st T1 (mkF m_ 4 #[.val (.ref a)] []) st1 ?_
  refine own_ret0 X1 hx hlk hret (hb hby djdk_30_method_1_code_4) (by decide) (by decide) ?_
  rw [e1]
  exact ⟨rfl, N0, rfl⟩
theorem dprog_12_method_1_code_0 : decode prog_12_method_1_code 0 = .ok (.aload_n 0, 1) := by decide +kernel
theorem dprog_12_method_1_code_1 : decode prog_12_method_1_code 1 = .ok (.invokespecial 1, 3) := by decide +kernel
theorem dprog_12_method_1_code_4 : decode prog_12_method_1_code 4 = .ok (.aload_n 0, 1) := by decide +kernel
theorem dprog_12_method_1_code_5 : decode prog_12_method_1_code 5 = .ok (.lload_n 1, 1) := by decide +kernel
theorem dprog_12_method_1_code_6 : decode prog_12_method_1_code 6 = .ok (.putfield 7, 3) := by decide +kernel
theorem dprog_12_method_1_code_9 : decode prog_12_method_1_code 9 = .ok (.aload_n 0, 1) := by decide +kernel
theorem dprog_12_method_1_code_10 : decode prog_12_method_1_code 10 = .ok (.aload_n 3, 1) := by decide +kernel
theorem dprog_12_method_1_code_11 : decode prog_12_method_1_code 11 = .ok (.putfield 13, 3) := by decide +kernel
theorem dprog_12_method_1_code_14 : decode prog_12_method_1_code 14 = .ok (.return_, 1) := by decide +kernel
theorem ef_rm17 (m_ : MethodId) (a : Addr) (ln : Int64) (er : Addr) : entryFrame m_ #[(.ref a), (.long ln), (.ref er)] 4 = mkF m_ 0 #[.val (.ref a), .val (.long ln), .second, .val (.ref er)] [] := by first | (simp [entryFrame, mkF, argsToLocals, Value.category]; done) | rfl
theorem own_pn7 : plainName "com/example/keep_count/keepcount/api/BatchResult$Rejection" = true := by first | (simp [plainName, overriddenIn]; done) | decide +kernel
set_option maxRecDepth 65536 in
set_option maxHeartbeats 40000000 in
theorem rm17 (l : Launch) (Z : State) (a0 : Array Value) (hw : ∀ d ∈ tables_1, d.before a0 Z = true) (a : Addr) (ln : Int64) (er : Addr) (h0 : Heap) (n0 : Nat) (Z0 : n0 ≤ h0.size) (E_a : Exa Z h0 a "com/example/keep_count/keepcount/api/BatchResult$Rejection") (F_line_a : Fld Z h0 a "com/example/keep_count/keepcount/api/BatchResult$Rejection" "line" "J" (.long (0 : Int64))) (F_error_a : Fld Z h0 a "com/example/keep_count/keepcount/api/BatchResult$Rejection" "error" "Ljava/lang/String;" .null) (g_a : n0 ≤ a) :
    own_Met l Z (⟨"com/example/keep_count/keepcount/api/BatchResult$Rejection", "<init>", "(JLjava/lang/String;)V"⟩ : MethodName) prog_12_method_1_code 4 none ({ frames := 2, cells := 0, slots := 0, locals := 24 } : Room) #[(.ref a), (.long ln), (.ref er)] h0 (fun v h L => v = none ∧ Fr n0 L ∧ Keep h0 h [a] ∧ Exa Z h a "com/example/keep_count/keepcount/api/BatchResult$Rejection" ∧ Fld Z h a "com/example/keep_count/keepcount/api/BatchResult$Rejection" "line" "J" (.long ln) ∧ Fld Z h a "com/example/keep_count/keepcount/api/BatchResult$Rejection" "error" "Ljava/lang/String;" (.ref er)) := by
  refine own_body #[.val (.ref a), .val (.long ln), .second, .val (.ref er)] (plainFor_of_name own_pn7) (fun m_ => ef_rm17 m_ a ln er) ?_
  intro p_ e_ s_ m_ below meth c_ s₁ X0 hx hby hml hret hlk hZ hown hnm e0
  have N0 := Fr.nil n0
  have KP := Keep.refl h0 [a]
  show own_Out p_ e_ below s_ _ _ _ s₁ (mkF m_ 0 #[.val (.ref a), .val (.long ln), .second, .val (.ref er)] [])
  refine own_st s₁ (mkF m_ 1 #[.val (.ref a), .val (.long ln), .second, .val (.ref er)] [(.ref a)]) (fun t_ k_ => ?_) ?_
  · refine XS.aloadN X0.here hx rfl (hb hby dprog_12_method_1_code_0) rfl rfl ?_
    show Steps p_.tables e_ below (s₁.setTop (mkF m_ 1 #[.val (.ref a), .val (.long ln), .second, .val (.ref er)] [(.ref a)])) t_
    exact k_
  refine own_callC X0 hx hZ rfl hown (hw _ (List.mem_of_getElem? (i := 113) rfl)) (hw _ (List.mem_of_getElem? (i := 114) rfl)) (hw _ (List.mem_of_getElem? (i := 116) rfl)) (hw _ (List.mem_of_getElem? (i := 117) rfl)) (by decide) a [] [] (rm18 l Z a0 hw a h0 n0 Z0) 0 (by decide) (by decide) e0 (by rw [hml]; rfl) (lenOf own_pd0 rfl) rfl (Nat.le_of_eq rfl) (hb hby dprog_12_method_1_code_1) (by decide) (by decide) ?_
  intro v1 T1 L1 X1 q1
  obtain ⟨rfl, N1q, e1⟩ := q1
  have N1 := Fr.app N0 N1q
  show own_Out p_ e_ below s_ _ _ _ T1 (mkF m_ 4 #[.val (.ref a), .val (.long ln), .second, .val (.ref er)] [])
  refine own_st T1 (mkF m_ 6 #[.val (.ref a), .val (.long ln), .second, .val (.ref er)] [(.long ln), (.ref a)]) (fun t_ k_ => ?_) ?_
  · refine XS.aloadN X1.here hx rfl (hb hby dprog_12_method_1_code_4) rfl rfl ?_
    show Steps p_.tables e_ below (T1.setTop (mkF m_ 5 #[.val (.ref a), .val (.long ln), .second, .val (.ref er)] [(.ref a)])) t_
    refine XS.lloadN X1.here hx rfl (hb hby dprog_12_method_1_code_5) rfl ?_
    show Steps p_.tables e_ below (T1.setTop (mkF m_ 6 #[.val (.ref a), .val (.long ln), .second, .val (.ref er)] [(.long ln), (.ref a)])) t_
    exact k_
  obtain ⟨T2, h2, X2, e2, W2, st2⟩ := putF X1 hx hZ hown (host := "") (Or.inl (hw _ (List.mem_of_getElem? (i := 119) rfl))) Via.refl e1 F_line_a E_a (Or.inr ⟨(hw _ (List.mem_of_getElem? (i := 120) rfl)), rfl, hnm⟩) (hw _ (List.mem_of_getElem? (i := 108) rfl)) (ty := .long) (by decide) rfl rfl (g := (mkF m_ 6 #[.val (.ref a), .val (.long ln), .second, .val (.ref er)] [(.long ln), (.ref a)])) rfl rfl (hb hby dprog_12_method_1_code_6)
  have N2 := Fr.snoc X2 N1 g_a
  replace Z0 : n0 ≤ h2.size := W2.size ▸ Z0
  replace KP := KP.wr W2 (Or.inl (List.mem_of_getElem? (i := 0) rfl))
  replace E_a := E_a.wr W2
  replace F_error_a := F_error_a.other W2 (Or.inr (slot_ne (Or.inr (hw _ (List.mem_of_getElem? (i := 122) rfl))) (Or.inr (hw _ (List.mem_of_getElem? (i := 120) rfl))) (by decide) (t := (.object "java/lang/String")) (t' := .long) (by decide) (by decide)))
  replace F_line_a := F_line_a.same W2
  refine own_st T2 (mkF m_ 9 #[.val (.ref a), .val (.long ln), .second, .val (.ref er)] []) st2 ?_
  refine own_st T2 (mkF m_ 11 #[.val (.ref a), .val (.long ln), .second, .val (.ref er)] [(.ref er), (.ref a)]) (fun t_ k_ => ?_) ?_
  · refine XS.aloadN X2.here hx rfl (hb hby dprog_12_method_1_code_9) rfl rfl ?_
    show Steps p_.tables e_ below (T2.setTop (mkF m_ 10 #[.val (.ref a), .val (.long ln), .second, .val (.ref er)] [(.ref a)])) t_
    refine XS.aloadN X2.here hx rfl (hb hby dprog_12_method_1_code_10) rfl rfl ?_
    show Steps p_.tables e_ below (T2.setTop (mkF m_ 11 #[.val (.ref a), .val (.long ln), .second, .val (.ref er)] [(.ref er), (.ref a)])) t_
    exact k_
  obtain ⟨T3, h3, X3, e3, W3, st3⟩ := putF X2 hx hZ hown (host := "") (Or.inl (hw _ (List.mem_of_getElem? (i := 121) rfl))) Via.refl e2 F_error_a E_a (Or.inr ⟨(hw _ (List.mem_of_getElem? (i := 122) rfl)), rfl, hnm⟩) (hw _ (List.mem_of_getElem? (i := 108) rfl)) (ty := (.object "java/lang/String")) (by decide) rfl rfl (g := (mkF m_ 11 #[.val (.ref a), .val (.long ln), .second, .val (.ref er)] [(.ref er), (.ref a)])) rfl rfl (hb hby dprog_12_method_1_code_11)
  have N3 := Fr.snoc X3 N2 g_a
  replace Z0 : n0 ≤ h3.size := W3.size ▸ Z0
  replace KP := KP.wr W3 (Or.inl (List.mem_of_getElem? (i := 0) rfl))
  replace E_a := E_a.wr W3
  replace F_line_a := F_line_a.other W3 (Or.inr (slot_ne (Or.inr (hw _ (List.mem_of_getElem? (i := 120) rfl))) (Or.inr (hw _ (List.mem_of_getElem? (i := 122) rfl))) (by decide) (t := .long) (t' := (.object "java/lang/String")) (by decide) (by decide)))
  replace F_error_a := F_error_a.same W3
  refine own_st T3 (mkF m_ 14 #[.val (.ref a), .val (.long ln), .second, .val (.ref er)] []) st3 ?_
  refine own_ret0 X3 hx hlk hret (hb hby dprog_12_method_1_code_14) (by decide) (by decide) ?_
  rw [e3]
  exact ⟨rfl, N3, KP, E_a, F_line_a, F_error_a⟩
theorem djdk_38_method_8_code_0 : decode jdk_38_method_8_code 0 = .ok (.aload_n 0, 1) := by decide +kernel
theorem djdk_38_method_8_code_1 : decode jdk_38_method_8_code 1 = .ok (.getfield 48, 3) := by decide +kernel
theorem djdk_38_method_8_code_4 : decode jdk_38_method_8_code 4 = .ok (.ireturn, 1) := by decide +kernel
theorem ef_rm16 (m_ : MethodId) (a : Addr) : entryFrame m_ #[(.ref a)] 1 = mkF m_ 0 #[.val (.ref a)] [] := by first | (simp [entryFrame, mkF, argsToLocals, Value.category]; done) | rfl
set_option maxRecDepth 65536 in
set_option maxHeartbeats 40000000 in
theorem rm16 (l : Launch) (Z : State) (a0 : Array Value) (hw : ∀ d ∈ tables_1, d.before a0 Z = true) (a : Addr) (h0 : Heap) (n0 : Nat) (Z0 : n0 ≤ h0.size) (F_size_a : Fld Z h0 a "java/util/ArrayList" "size" "I" (.int (0 : Int32))) :
    own_Met l Z (⟨"java/util/ArrayList", "size", "()I"⟩ : MethodName) jdk_38_method_8_code 1 (some .int) ({ frames := 0, cells := 0, slots := 0, locals := 0 } : Room) #[(.ref a)] h0 (fun v h L => v = some (.int (0 : Int32)) ∧ Fr n0 L ∧ h = h0) := by
  refine own_body #[.val (.ref a)] (plainFor_of_name own_pn2) (fun m_ => ef_rm16 m_ a) ?_
  intro p_ e_ s_ m_ below meth c_ s₁ X0 hx hby hml hret hlk hZ hown hnm e0
  have N0 := Fr.nil n0
  show own_Out p_ e_ below s_ _ _ _ s₁ (mkF m_ 0 #[.val (.ref a)] [])
  refine own_st s₁ (mkF m_ 1 #[.val (.ref a)] [(.ref a)]) (fun t_ k_ => ?_) ?_
  · refine XS.aloadN X0.here hx rfl (hb hby djdk_38_method_8_code_0) rfl rfl ?_
    show Steps p_.tables e_ below (s₁.setTop (mkF m_ 1 #[.val (.ref a)] [(.ref a)])) t_
    exact k_
  obtain ⟨T1, X1, e1, st1⟩ := getF X0 hx hZ hown (host := "") (Or.inl (hw _ (List.mem_of_getElem? (i := 105) rfl))) Via.refl e0 F_size_a (g := (mkF m_ 1 #[.val (.ref a)] [(.ref a)])) rfl rfl (hb hby djdk_38_method_8_code_1)
  refine own_st T1 (mkF m_ 4 #[.val (.ref a)] [(.int (0 : Int32))]) st1 ?_
  refine own_retI X1 hx hlk hret (hb hby djdk_38_method_8_code_4) (by decide) (by decide) ?_
  rw [e1]
  exact ⟨rfl, N0, rfl⟩
theorem djdk_29_method_65_code_0 : decode jdk_29_method_65_code 0 = .ok (.iload_n 0, 1) := by decide +kernel
theorem djdk_29_method_65_code_1 : decode jdk_29_method_65_code 1 = .ok (.iload_n 1, 1) := by decide +kernel
theorem djdk_29_method_65_code_2 : decode jdk_29_method_65_code 2 = .ok (.if_icmp .lt 7, 3) := by decide +kernel
theorem djdk_29_method_65_code_9 : decode jdk_29_method_65_code 9 = .ok (.iload_n 1, 1) := by decide +kernel
theorem djdk_29_method_65_code_5 : decode jdk_29_method_65_code 5 = .ok (.iload_n 0, 1) := by decide +kernel
theorem djdk_29_method_65_code_6 : decode jdk_29_method_65_code 6 = .ok (.goto 4, 3) := by decide +kernel
theorem djdk_29_method_65_code_10 : decode jdk_29_method_65_code 10 = .ok (.ireturn, 1) := by decide +kernel
theorem ef_rm23 (m_ : MethodId) (x : Int32) (y : Int32) : entryFrame m_ #[(.int x), (.int y)] 2 = mkF m_ 0 #[.val (.int x), .val (.int y)] [] := by first | (simp [entryFrame, mkF, argsToLocals, Value.category]; done) | rfl
def f23 (x : Int32) (y : Int32) : Int32 := (if x < y then y else x)
set_option maxRecDepth 65536 in
set_option maxHeartbeats 40000000 in
theorem rm23 (l : Launch) (Z : State) (a0 : Array Value) (hw : ∀ d ∈ tables_1, d.before a0 Z = true) (x : Int32) (y : Int32) (h0 : Heap) (n0 : Nat) (Z0 : n0 ≤ h0.size)  :
    own_Met l Z (⟨"java/lang/Math", "max", "(II)I"⟩ : MethodName) jdk_29_method_65_code 2 (some .int) ({ frames := 0, cells := 0, slots := 0, locals := 0 } : Room) #[(.int x), (.int y)] h0 (fun v h L => v = some (.int (f23 x y)) ∧ Fr n0 L ∧ h = h0) := by
  refine own_body #[.val (.int x), .val (.int y)] (Jvm.Free.JP.mathPlain rfl (by decide +kernel)) (fun m_ => ef_rm23 m_ x y) ?_
  intro p_ e_ s_ m_ below meth c_ s₁ X0 hx hby hml hret hlk hZ hown hnm e0
  have N0 := Fr.nil n0
  show own_Out p_ e_ below s_ _ _ _ s₁ (mkF m_ 0 #[.val (.int x), .val (.int y)] [])
  refine own_st s₁ (mkF m_ 10 #[.val (.int x), .val (.int y)] [(.int (if x < y then y else x))]) (fun t_ k_ => ?_) ?_
  · refine XS.iloadN X0.here hx rfl (hb hby djdk_29_method_65_code_0) rfl ?_
    show Steps p_.tables e_ below (s₁.setTop (mkF m_ 1 #[.val (.int x), .val (.int y)] [(.int x)])) t_
    refine XS.iloadN X0.here hx rfl (hb hby djdk_29_method_65_code_1) rfl ?_
    show Steps p_.tables e_ below (s₁.setTop (mkF m_ 2 #[.val (.int x), .val (.int y)] [(.int y), (.int x)])) t_
    have jn2 : ∀ t_, Steps p_.tables e_ below (s₁.setTop (mkF m_ 10 #[.val (.int x), .val (.int y)] [(.int (if x < y then y else x))])) t_ → Steps p_.tables e_ below (s₁.setTop (mkF m_ 2 #[.val (.int x), .val (.int y)] [(.int y), (.int x)])) t_ := by
      intro t_ k_
      by_cases hc2 : x < y
      · refine XS.icmpYes X0.here hx rfl (pc0 := 2) (pc' := 9) rfl (hb hby djdk_29_method_65_code_2) rfl (tlt hc2).1 (by decide) (by decide) ?_
        show Steps p_.tables e_ below (s₁.setTop (mkF m_ 9 #[.val (.int x), .val (.int y)] [])) t_
        refine XS.iloadN X0.here hx rfl (hb hby djdk_29_method_65_code_9) rfl ?_
        show Steps p_.tables e_ below (s₁.setTop (mkF m_ 10 #[.val (.int x), .val (.int y)] [(.int y)])) t_
        simp only [if_pos hc2] at k_ ⊢
        exact k_
      · refine XS.icmpNo X0.here hx rfl (hb hby djdk_29_method_65_code_2) rfl (flt hc2).1 ?_
        show Steps p_.tables e_ below (s₁.setTop (mkF m_ 5 #[.val (.int x), .val (.int y)] [])) t_
        refine XS.iloadN X0.here hx rfl (hb hby djdk_29_method_65_code_5) rfl ?_
        show Steps p_.tables e_ below (s₁.setTop (mkF m_ 6 #[.val (.int x), .val (.int y)] [(.int x)])) t_
        refine XS.goto X0.here hx rfl (pc0 := 6) (pc' := 10) rfl (hb hby djdk_29_method_65_code_6) (by decide) (by decide) ?_
        show Steps p_.tables e_ below (s₁.setTop (mkF m_ 10 #[.val (.int x), .val (.int y)] [(.int x)])) t_
        simp only [if_neg hc2] at k_ ⊢
        exact k_
    refine jn2 _ ?_
    show Steps p_.tables e_ below (s₁.setTop (mkF m_ 10 #[.val (.int x), .val (.int y)] [(.int (if x < y then y else x))])) t_
    exact k_
  refine own_retI X0 hx hlk hret (hb hby djdk_29_method_65_code_10) (by decide) (by decide) ?_
  rw [e0]
  exact ⟨by simp only [f23], N0, rfl⟩
theorem djdk_38_method_6_code_0 : decode jdk_38_method_6_code 0 = .ok (.aload_n 0, 1) := by decide +kernel
theorem djdk_38_method_6_code_1 : decode jdk_38_method_6_code 1 = .ok (.getfield 9, 3) := by decide +kernel
theorem djdk_38_method_6_code_4 : decode jdk_38_method_6_code 4 = .ok (.arraylength, 1) := by decide +kernel
theorem djdk_38_method_6_code_5 : decode jdk_38_method_6_code 5 = .ok (.istore_n 2, 1) := by decide +kernel
theorem djdk_38_method_6_code_6 : decode jdk_38_method_6_code 6 = .ok (.iload_n 2, 1) := by decide +kernel
theorem djdk_38_method_6_code_7 : decode jdk_38_method_6_code 7 = .ok (.ifCond .gt 13, 3) := by decide +kernel
theorem djdk_38_method_6_code_10 : decode jdk_38_method_6_code 10 = .ok (.aload_n 0, 1) := by decide +kernel
theorem djdk_38_method_6_code_11 : decode jdk_38_method_6_code 11 = .ok (.getfield 9, 3) := by decide +kernel
theorem djdk_38_method_6_code_14 : decode jdk_38_method_6_code 14 = .ok (.getstatic 39, 3) := by decide +kernel
theorem djdk_38_method_6_code_17 : decode jdk_38_method_6_code 17 = .ok (.if_acmp .eq 28, 3) := by decide +kernel
theorem djdk_38_method_6_code_45 : decode jdk_38_method_6_code 45 = .ok (.aload_n 0, 1) := by decide +kernel
theorem djdk_38_method_6_code_46 : decode jdk_38_method_6_code 46 = .ok (.bipush 10, 2) := by decide +kernel
theorem djdk_38_method_6_code_48 : decode jdk_38_method_6_code 48 = .ok (.iload_n 1, 1) := by decide +kernel
theorem own_pd4 : parseMethodDescriptor "(II)I" = some ⟨[.int, .int], some .int⟩ := by decide +kernel
theorem djdk_38_method_6_code_49 : decode jdk_38_method_6_code 49 = .ok (.invokestatic 79, 3) := by decide +kernel
theorem djdk_38_method_6_code_52 : decode jdk_38_method_6_code 52 = .ok (.anewarray 7, 3) := by decide +kernel
theorem djdk_38_method_6_code_55 : decode jdk_38_method_6_code 55 = .ok (.dup_x1, 1) := by decide +kernel
theorem djdk_38_method_6_code_56 : decode jdk_38_method_6_code 56 = .ok (.putfield 9, 3) := by decide +kernel
theorem djdk_38_method_6_code_59 : decode jdk_38_method_6_code 59 = .ok (.areturn, 1) := by decide +kernel
theorem ef_rm22 (m_ : MethodId) (a : Addr) : entryFrame m_ #[(.ref a), (.int (1 : Int32))] 4 = mkF m_ 0 #[.val (.ref a), .val (.int (1 : Int32)), .unset, .unset] [] := by first | (simp [entryFrame, mkF, argsToLocals, Value.category]; done) | rfl
set_option maxRecDepth 65536 in
set_option maxHeartbeats 40000000 in
theorem rm22 (l : Launch) (Z : State) (a0 : Array Value) (hw : ∀ d ∈ tables_1, d.before a0 Z = true) (a : Addr) (de : Addr) (kd : ClassId) (mc : Int32) (h0 : Heap) (n0 : Nat) (Z0 : n0 ≤ h0.size) (O : Old Z n0 h0) (S_D : Sta Z Z.heap "java/util/ArrayList" "DEFAULTCAPACITY_EMPTY_ELEMENTDATA" "[Ljava/lang/Object;" (.ref de)) (A_de : own_A Z Z.heap de kd (.object "java/lang/Object") 0 (fun x => (([] : List Value).getD x .null))) (E_a : Exa Z h0 a "java/util/ArrayList") (F_modCount_a : Fld Z h0 a "java/util/AbstractList" "modCount" "I" (.int mc)) (F_elementData_a : Fld Z h0 a "java/util/ArrayList" "elementData" "[Ljava/lang/Object;" (.ref de)) (F_size_a : Fld Z h0 a "java/util/ArrayList" "size" "I" (.int (0 : Int32))) (g_a : n0 ≤ a) :
    own_Met l Z (⟨"java/util/ArrayList", "grow", "(I)[Ljava/lang/Object;"⟩ : MethodName) jdk_38_method_6_code 4 (some (.array (.object "java/lang/Object"))) ({ frames := 1, cells := 1, slots := 10, locals := 14 } : Room) #[(.ref a), (.int (1 : Int32))] h0 (fun v h L => ∃ (b : Addr) (kb : ClassId), v = some (.ref b) ∧ n0 ≤ b ∧ h0.size ≤ b ∧ Fr n0 L ∧ Keep h0 h [a] ∧ Exa Z h a "java/util/ArrayList" ∧ Fld Z h a "java/util/AbstractList" "modCount" "I" (.int mc) ∧ Fld Z h a "java/util/ArrayList" "elementData" "[Ljava/lang/Object;" (.ref b) ∧ Fld Z h a "java/util/ArrayList" "size" "I" (.int (0 : Int32)) ∧ own_A Z h b kb (.object "java/lang/Object") 10 (fun x => (([.null, .null, .null, .null, .null, .null, .null, .null, .null, .null] : List Value).getD x .null)) ∧ Ovr Z kb "java/lang/Object") := by
  refine own_body #[.val (.ref a), .val (.int (1 : Int32)), .unset, .unset] (plainFor_of_name own_pn2) (fun m_ => ef_rm22 m_ a) ?_
  intro p_ e_ s_ m_ below meth c_ s₁ X0 hx hby hml hret hlk hZ hown hnm e0
  have N0 := Fr.nil n0
  have KP := Keep.refl h0 [a]
  show own_Out p_ e_ below s_ _ _ _ s₁ (mkF m_ 0 #[.val (.ref a), .val (.int (1 : Int32)), .unset, .unset] [])
  refine own_st s₁ (mkF m_ 1 #[.val (.ref a), .val (.int (1 : Int32)), .unset, .unset] [(.ref a)]) (fun t_ k_ => ?_) ?_
  · refine XS.aloadN X0.here hx rfl (hb hby djdk_38_method_6_code_0) rfl rfl ?_
    show Steps p_.tables e_ below (s₁.setTop (mkF m_ 1 #[.val (.ref a), .val (.int (1 : Int32)), .unset, .unset] [(.ref a)])) t_
    exact k_
  obtain ⟨T1, X1, e1, st1⟩ := getF X0 hx hZ hown (host := "") (Or.inl (hw _ (List.mem_of_getElem? (i := 31) rfl))) Via.refl e0 F_elementData_a (g := (mkF m_ 1 #[.val (.ref a), .val (.int (1 : Int32)), .unset, .unset] [(.ref a)])) rfl rfl (hb hby djdk_38_method_6_code_1)
  refine own_st T1 (mkF m_ 4 #[.val (.ref a), .val (.int (1 : Int32)), .unset, .unset] [(.ref de)]) st1 ?_
  refine own_st T1 (mkF m_ 11 #[.val (.ref a), .val (.int (1 : Int32)), .val (.int (0 : Int32)), .unset] [(.ref a)]) (fun t_ k_ => ?_) ?_
  · refine own_len X1 hx hZ e1 (A_de.ext O.2) (hb hby djdk_38_method_6_code_4) (0 : Int32) (by decide) _ ?_
    show Steps p_.tables e_ below (T1.setTop (mkF m_ 5 #[.val (.ref a), .val (.int (1 : Int32)), .unset, .unset] [(.int (0 : Int32))])) t_
    refine XS.istoreN X1.here hx rfl (hb hby djdk_38_method_6_code_5) rfl (l' := #[.val (.ref a), .val (.int (1 : Int32)), .val (.int (0 : Int32)), .unset]) rfl ?_
    show Steps p_.tables e_ below (T1.setTop (mkF m_ 6 #[.val (.ref a), .val (.int (1 : Int32)), .val (.int (0 : Int32)), .unset] [])) t_
    refine XS.iloadN X1.here hx rfl (hb hby djdk_38_method_6_code_6) rfl ?_
    show Steps p_.tables e_ below (T1.setTop (mkF m_ 7 #[.val (.ref a), .val (.int (1 : Int32)), .val (.int (0 : Int32)), .unset] [(.int (0 : Int32))])) t_
    refine XS.ifNo X1.here hx rfl (hb hby djdk_38_method_6_code_7) rfl ((if0 _ _).trans (flt (by decide : ¬ ((0 : Int32) < (0 : Int32)))).2.2.1) ?_
    show Steps p_.tables e_ below (T1.setTop (mkF m_ 10 #[.val (.ref a), .val (.int (1 : Int32)), .val (.int (0 : Int32)), .unset] [])) t_
    refine XS.aloadN X1.here hx rfl (hb hby djdk_38_method_6_code_10) rfl rfl ?_
    show Steps p_.tables e_ below (T1.setTop (mkF m_ 11 #[.val (.ref a), .val (.int (1 : Int32)), .val (.int (0 : Int32)), .unset] [(.ref a)])) t_
    exact k_
  obtain ⟨T2, X2, e2, st2⟩ := getF X1 hx hZ hown (host := "") (Or.inl (hw _ (List.mem_of_getElem? (i := 31) rfl))) Via.refl e1 F_elementData_a (g := (mkF m_ 11 #[.val (.ref a), .val (.int (1 : Int32)), .val (.int (0 : Int32)), .unset] [(.ref a)])) rfl rfl (hb hby djdk_38_method_6_code_11)
  refine own_st T2 (mkF m_ 14 #[.val (.ref a), .val (.int (1 : Int32)), .val (.int (0 : Int32)), .unset] [(.ref de)]) st2 ?_
  obtain ⟨T3, X3, e3, st3⟩ := getS2 X2 hx hZ hown (host := "") (Or.inl (hw _ (List.mem_of_getElem? (i := 30) rfl))) Via.refl e2 (S_D.ext O.2) (g := (mkF m_ 14 #[.val (.ref a), .val (.int (1 : Int32)), .val (.int (0 : Int32)), .unset] [(.ref de)])) rfl (hb hby djdk_38_method_6_code_14)
  refine own_st T3 (mkF m_ 17 #[.val (.ref a), .val (.int (1 : Int32)), .val (.int (0 : Int32)), .unset] [(.ref de), (.ref de)]) st3 ?_
  refine own_st T3 (mkF m_ 49 #[.val (.ref a), .val (.int (1 : Int32)), .val (.int (0 : Int32)), .unset] [(.int (1 : Int32)), (.int (10 : Int32)), (.ref a)]) (fun t_ k_ => ?_) ?_
  · refine Jvm.RoadKit.acmp (g := (mkF m_ 17 #[.val (.ref a), .val (.int (1 : Int32)), .val (.int (0 : Int32)), .unset] [(.ref de), (.ref de)])) X3 hx rfl rfl rfl (pc0 := 17) (pc' := 45) (same := true) rfl (hb hby djdk_38_method_6_code_17) rfl (decide_eq_true rfl) (by decide) (by decide) ?_
    show Steps p_.tables e_ below (T3.setTop (mkF m_ 45 #[.val (.ref a), .val (.int (1 : Int32)), .val (.int (0 : Int32)), .unset] [])) t_
    refine XS.aloadN X3.here hx rfl (hb hby djdk_38_method_6_code_45) rfl rfl ?_
    show Steps p_.tables e_ below (T3.setTop (mkF m_ 46 #[.val (.ref a), .val (.int (1 : Int32)), .val (.int (0 : Int32)), .unset] [(.ref a)])) t_
    refine XS.bipush X3.here hx rfl (hb hby djdk_38_method_6_code_46) ?_
    show Steps p_.tables e_ below (T3.setTop (mkF m_ 48 #[.val (.ref a), .val (.int (1 : Int32)), .val (.int (0 : Int32)), .unset] [(.int (10 : Int32)), (.ref a)])) t_
    refine XS.iloadN X3.here hx rfl (hb hby djdk_38_method_6_code_48) rfl ?_
    show Steps p_.tables e_ below (T3.setTop (mkF m_ 49 #[.val (.ref a), .val (.int (1 : Int32)), .val (.int (0 : Int32)), .unset] [(.int (1 : Int32)), (.int (10 : Int32)), (.ref a)])) t_
    exact k_
  refine own_callS X3 hx hZ hown (hw _ (List.mem_of_getElem? (i := 148) rfl)) (hw _ (List.mem_of_getElem? (i := 149) rfl)) (hw _ (List.mem_of_getElem? (i := 150) rfl)) (hw _ (List.mem_of_getElem? (i := 151) rfl)) (by decide) [(.int (10 : Int32)), (.int (1 : Int32))] [(.ref a)] (rm23 l Z a0 hw (10 : Int32) (1 : Int32) h0 n0 Z0) 1 (by decide) (by decide) e3 (by rw [hml]; rfl) (lenOf own_pd4 rfl) rfl (Nat.le_of_eq rfl) (hb hby djdk_38_method_6_code_49) (by decide) (by decide) ?_
  intro v4 T4 L4 X4 q4
  obtain ⟨rfl, N4q, e4⟩ := q4
  have N4 := Fr.app N0 N4q
  rw [show (f23 (10 : Int32) (1 : Int32)) = 10 from by decide]
  show own_Out p_ e_ below s_ _ _ _ T4 (mkF m_ 52 #[.val (.ref a), .val (.int (1 : Int32)), .val (.int (0 : Int32)), .unset] [(.int (10 : Int32)), (.ref a)])
  obtain ⟨T5, h5, k5, X5, e5, E5, A5, O5, st5⟩ := newR X4 hx hZ hown (hw _ (List.mem_of_getElem? (i := 152) rfl)) (hw _ (List.mem_of_getElem? (i := 153) rfl)) e4 (g := (mkF m_ 52 #[.val (.ref a), .val (.int (1 : Int32)), .val (.int (0 : Int32)), .unset] [(.int (10 : Int32)), (.ref a)])) rfl (hb hby djdk_38_method_6_code_52) rfl (by decide) (cap := 10) (by decide) (by decide) (by decide) (by decide)
  obtain ⟨b5, g5⟩ : ∃ z, z = h0.size := ⟨_, rfl⟩
  rw [← g5] at A5 st5
  have g_b5 : n0 ≤ b5 := g5 ▸ Z0
  have sz_b5 : h0.size ≤ b5 := g5 ▸ KP.1
  have ne_a_b5 : a ≠ b5 := Nat.ne_of_lt (Nat.lt_of_lt_of_le E_a.lt (Nat.le_of_eq g5.symm))
  replace KP := KP.ext E5
  replace O := O.ext E5
  replace E_a := E_a.ext E5
  replace F_modCount_a := F_modCount_a.ext E5
  replace F_elementData_a := F_elementData_a.ext E5
  replace F_size_a := F_size_a.ext E5
  replace Z0 : n0 ≤ h5.size := Nat.le_trans Z0 E5.1
  have A_b5 : own_A Z h5 b5 k5 (.object "java/lang/Object") 10 (fun x_ => (([.null, .null, .null, .null, .null, .null, .null, .null, .null, .null] : List Value).getD x_ .null)) := own_A.newL A5 (by decide) 10 (by decide) .null rfl
  refine own_st T5 (mkF m_ 55 #[.val (.ref a), .val (.int (1 : Int32)), .val (.int (0 : Int32)), .unset] [(.ref b5), (.ref a)]) st5 ?_
  refine own_st T5 (mkF m_ 56 #[.val (.ref a), .val (.int (1 : Int32)), .val (.int (0 : Int32)), .unset] [(.ref b5), (.ref a), (.ref b5)]) (fun t_ k_ => ?_) ?_
  · refine XS.dupX1 X5.here hx rfl (hb hby djdk_38_method_6_code_55) rfl rfl rfl ?_
    show Steps p_.tables e_ below (T5.setTop (mkF m_ 56 #[.val (.ref a), .val (.int (1 : Int32)), .val (.int (0 : Int32)), .unset] [(.ref b5), (.ref a), (.ref b5)])) t_
    exact k_
  obtain ⟨T6, h6, X6, e6, W6, st6⟩ := putF X5 hx hZ hown (host := "") (Or.inl (hw _ (List.mem_of_getElem? (i := 31) rfl))) Via.refl e5 F_elementData_a E_a (Or.inl (hw _ (List.mem_of_getElem? (i := 32) rfl))) (hw _ (List.mem_of_getElem? (i := 10) rfl)) (ty := (.array (.object "java/lang/Object"))) (by decide) rfl rfl (g := (mkF m_ 56 #[.val (.ref a), .val (.int (1 : Int32)), .val (.int (0 : Int32)), .unset] [(.ref b5), (.ref a), (.ref b5)])) rfl rfl (hb hby djdk_38_method_6_code_56)
  have N6 := Fr.snoc X6 N4 g_a
  replace Z0 : n0 ≤ h6.size := W6.size ▸ Z0
  replace KP := KP.wr W6 (Or.inl (List.mem_of_getElem? (i := 0) rfl))
  replace O := O.wr W6 g_a
  replace E_a := E_a.wr W6
  replace F_modCount_a := F_modCount_a.other W6 (Or.inr (slot_ne (Or.inl (hw _ (List.mem_of_getElem? (i := 29) rfl))) (Or.inl (hw _ (List.mem_of_getElem? (i := 32) rfl))) (by decide) (t := .int) (t' := (.array (.object "java/lang/Object"))) (by decide) (by decide)))
  replace F_size_a := F_size_a.other W6 (Or.inr (slot_ne (Or.inl (hw _ (List.mem_of_getElem? (i := 106) rfl))) (Or.inl (hw _ (List.mem_of_getElem? (i := 32) rfl))) (by decide) (t := .int) (t' := (.array (.object "java/lang/Object"))) (by decide) (by decide)))
  replace A_b5 := A_b5.other W6 (Ne.symm ne_a_b5)
  replace F_elementData_a := F_elementData_a.same W6
  refine own_st T6 (mkF m_ 59 #[.val (.ref a), .val (.int (1 : Int32)), .val (.int (0 : Int32)), .unset] [(.ref b5)]) st6 ?_
  refine own_retA X6 hx hlk hret rfl rfl (hb hby djdk_38_method_6_code_59) (by decide) (by decide) ?_
  rw [e6]
  exact ⟨b5, _, rfl, g_b5, sz_b5, N6, KP, E_a, F_modCount_a, F_elementData_a, F_size_a, A_b5, O5⟩
theorem djdk_38_method_7_code_0 : decode jdk_38_method_7_code 0 = .ok (.aload_n 0, 1) := by decide +kernel
theorem djdk_38_method_7_code_1 : decode jdk_38_method_7_code 1 = .ok (.aload_n 0, 1) := by decide +kernel
theorem djdk_38_method_7_code_2 : decode jdk_38_method_7_code 2 = .ok (.getfield 48, 3) := by decide +kernel
theorem djdk_38_method_7_code_5 : decode jdk_38_method_7_code 5 = .ok (.iconst 1, 1) := by decide +kernel
theorem djdk_38_method_7_code_6 : decode jdk_38_method_7_code 6 = .ok (.iadd, 1) := by decide +kernel
theorem own_pd5 : parseMethodDescriptor "(I)[Ljava/lang/Object;" = some ⟨[.int], some (.array (.object "java/lang/Object"))⟩ := by decide +kernel
theorem djdk_38_method_7_code_7 : decode jdk_38_method_7_code 7 = .ok (.invokevirtual 69, 3) := by decide +kernel
theorem djdk_38_method_7_code_10 : decode jdk_38_method_7_code 10 = .ok (.areturn, 1) := by decide +kernel
theorem ef_rm21 (m_ : MethodId) (a : Addr) : entryFrame m_ #[(.ref a)] 1 = mkF m_ 0 #[.val (.ref a)] [] := by first | (simp [entryFrame, mkF, argsToLocals, Value.category]; done) | rfl
set_option maxRecDepth 65536 in
set_option maxHeartbeats 40000000 in
theorem rm21 (l : Launch) (Z : State) (a0 : Array Value) (hw : ∀ d ∈ tables_1, d.before a0 Z = true) (a : Addr) (de : Addr) (kd : ClassId) (mc : Int32) (h0 : Heap) (n0 : Nat) (Z0 : n0 ≤ h0.size) (O : Old Z n0 h0) (S_D : Sta Z Z.heap "java/util/ArrayList" "DEFAULTCAPACITY_EMPTY_ELEMENTDATA" "[Ljava/lang/Object;" (.ref de)) (A_de : own_A Z Z.heap de kd (.object "java/lang/Object") 0 (fun x => (([] : List Value).getD x .null))) (E_a : Exa Z h0 a "java/util/ArrayList") (F_modCount_a : Fld Z h0 a "java/util/AbstractList" "modCount" "I" (.int mc)) (F_elementData_a : Fld Z h0 a "java/util/ArrayList" "elementData" "[Ljava/lang/Object;" (.ref de)) (F_size_a : Fld Z h0 a "java/util/ArrayList" "size" "I" (.int (0 : Int32))) (g_a : n0 ≤ a) :
    own_Met l Z (⟨"java/util/ArrayList", "grow", "()[Ljava/lang/Object;"⟩ : MethodName) jdk_38_method_7_code 1 (some (.array (.object "java/lang/Object"))) ({ frames := 2, cells := 1, slots := 10, locals := 29 } : Room) #[(.ref a)] h0 (fun v h L => ∃ (b : Addr) (kb : ClassId), v = some (.ref b) ∧ n0 ≤ b ∧ h0.size ≤ b ∧ Fr n0 L ∧ Keep h0 h [a] ∧ Exa Z h a "java/util/ArrayList" ∧ Fld Z h a "java/util/AbstractList" "modCount" "I" (.int mc) ∧ Fld Z h a "java/util/ArrayList" "elementData" "[Ljava/lang/Object;" (.ref b) ∧ Fld Z h a "java/util/ArrayList" "size" "I" (.int (0 : Int32)) ∧ own_A Z h b kb (.object "java/lang/Object") 10 (fun x => (([.null, .null, .null, .null, .null, .null, .null, .null, .null, .null] : List Value).getD x .null)) ∧ Ovr Z kb "java/lang/Object") := by
  refine own_body #[.val (.ref a)] (plainFor_of_name own_pn2) (fun m_ => ef_rm21 m_ a) ?_
  intro p_ e_ s_ m_ below meth c_ s₁ X0 hx hby hml hret hlk hZ hown hnm e0
  have N0 := Fr.nil n0
  have KP := Keep.refl h0 [a]
  show own_Out p_ e_ below s_ _ _ _ s₁ (mkF m_ 0 #[.val (.ref a)] [])
  refine own_st s₁ (mkF m_ 2 #[.val (.ref a)] [(.ref a), (.ref a)]) (fun t_ k_ => ?_) ?_
  · refine XS.aloadN X0.here hx rfl (hb hby djdk_38_method_7_code_0) rfl rfl ?_
    show Steps p_.tables e_ below (s₁.setTop (mkF m_ 1 #[.val (.ref a)] [(.ref a)])) t_
    refine XS.aloadN X0.here hx rfl (hb hby djdk_38_method_7_code_1) rfl rfl ?_
    show Steps p_.tables e_ below (s₁.setTop (mkF m_ 2 #[.val (.ref a)] [(.ref a), (.ref a)])) t_
    exact k_
  obtain ⟨T1, X1, e1, st1⟩ := getF X0 hx hZ hown (host := "") (Or.inl (hw _ (List.mem_of_getElem? (i := 105) rfl))) Via.refl e0 F_size_a (g := (mkF m_ 2 #[.val (.ref a)] [(.ref a), (.ref a)])) rfl rfl (hb hby djdk_38_method_7_code_2)
  refine own_st T1 (mkF m_ 5 #[.val (.ref a)] [(.int (0 : Int32)), (.ref a)]) st1 ?_
  refine own_st T1 (mkF m_ 7 #[.val (.ref a)] [(.int (1 : Int32)), (.ref a)]) (fun t_ k_ => ?_) ?_
  · refine XS.iconst X1.here hx rfl (hb hby djdk_38_method_7_code_5) ?_
    show Steps p_.tables e_ below (T1.setTop (mkF m_ 6 #[.val (.ref a)] [(.int (1 : Int32)), (.int (0 : Int32)), (.ref a)])) t_
    refine XS.iadd X1.here hx rfl (hb hby djdk_38_method_7_code_6) rfl ?_
    show Steps p_.tables e_ below (T1.setTop (mkF m_ 7 #[.val (.ref a)] [(.int (1 : Int32)), (.ref a)])) t_
    exact k_
  refine own_callP X1 hx hZ (y := (⟨"java/util/ArrayList", "grow", "(I)[Ljava/lang/Object;"⟩ : MethodName)) hown (hw _ (List.mem_of_getElem? (i := 143) rfl)) (hw _ (List.mem_of_getElem? (i := 144) rfl)) (hw _ (List.mem_of_getElem? (i := 146) rfl)) (hw _ (List.mem_of_getElem? (i := 145) rfl)) (hw _ (List.mem_of_getElem? (i := 11) rfl)) (hw _ (List.mem_of_getElem? (i := 147) rfl)) (by decide) a [(.int (1 : Int32))] [] E_a (rm22 l Z a0 hw a de kd mc h0 n0 Z0 O S_D A_de E_a F_modCount_a F_elementData_a F_size_a g_a) 0 (by decide) (by decide) e1 (by rw [hml]; rfl) (lenOf own_pd5 rfl) rfl (Nat.le_of_eq rfl) (hb hby djdk_38_method_7_code_7) (by decide) (by decide) ?_
  intro v2 T2 L2 X2 q2
  obtain ⟨y2, ky2, rfl, g_y2, sz2, N2q, K2, Eq2, Fq1, Fq2, Fq3, Aq, Oq⟩ := q2
  have N2 := Fr.app N0 N2q
  have ne_a_y2 : a ≠ y2 := Nat.ne_of_lt (Nat.lt_of_lt_of_le E_a.lt sz2)
  have sz_y2 : h0.size ≤ y2 := Nat.le_trans KP.1 sz2
  replace KP := KP.trans K2 (allS (Or.inl (List.mem_of_getElem? (i := 0) rfl)) all0)
  replace O := O.keep K2 (allS g_a all0)
  replace E_a := E_a.keep K2
  -- F_modCount_a is dropped: written by the callee
  -- F_elementData_a is dropped: written by the callee
  -- F_size_a is dropped: written by the callee
  replace Z0 : n0 ≤ T2.heap.size := Nat.le_trans Z0 K2.1
  have F_modCount_a := Fq1
  have F_elementData_a := Fq2
  have F_size_a := Fq3
  have A_y2 := Aq
  show own_Out p_ e_ below s_ _ _ _ T2 (mkF m_ 10 #[.val (.ref a)] [(.ref y2)])
  refine own_retA X2 hx hlk hret rfl rfl (hb hby djdk_38_method_7_code_10) (by decide) (by decide) ?_
  exact ⟨y2, _, rfl, g_y2, sz_y2, N2, KP, E_a, F_modCount_a, F_elementData_a, F_size_a, A_y2, Oq⟩
theorem djdk_38_method_24_code_0 : decode jdk_38_method_24_code 0 = .ok (.iload_n 3, 1) := by decide +kernel
theorem djdk_38_method_24_code_1 : decode jdk_38_method_24_code 1 = .ok (.aload_n 2, 1) := by decide +kernel
theorem djdk_38_method_24_code_2 : decode jdk_38_method_24_code 2 = .ok (.arraylength, 1) := by decide +kernel
theorem djdk_38_method_24_code_3 : decode jdk_38_method_24_code 3 = .ok (.if_icmp .ne 8, 3) := by decide +kernel
theorem djdk_38_method_24_code_6 : decode jdk_38_method_24_code 6 = .ok (.aload_n 0, 1) := by decide +kernel
theorem own_pd6 : parseMethodDescriptor "()[Ljava/lang/Object;" = some ⟨[], some (.array (.object "java/lang/Object"))⟩ := by decide +kernel
theorem djdk_38_method_24_code_7 : decode jdk_38_method_24_code 7 = .ok (.invokevirtual 129, 3) := by decide +kernel
theorem djdk_38_method_24_code_10 : decode jdk_38_method_24_code 10 = .ok (.astore_n 2, 1) := by decide +kernel
theorem djdk_38_method_24_code_11 : decode jdk_38_method_24_code 11 = .ok (.aload_n 2, 1) := by decide +kernel
theorem djdk_38_method_24_code_12 : decode jdk_38_method_24_code 12 = .ok (.iload_n 3, 1) := by decide +kernel
theorem djdk_38_method_24_code_13 : decode jdk_38_method_24_code 13 = .ok (.aload_n 1, 1) := by decide +kernel
theorem djdk_38_method_24_code_14 : decode jdk_38_method_24_code 14 = .ok (.aastore, 1) := by decide +kernel
theorem djdk_38_method_24_code_15 : decode jdk_38_method_24_code 15 = .ok (.aload_n 0, 1) := by decide +kernel
theorem djdk_38_method_24_code_16 : decode jdk_38_method_24_code 16 = .ok (.iload_n 3, 1) := by decide +kernel
theorem djdk_38_method_24_code_17 : decode jdk_38_method_24_code 17 = .ok (.iconst 1, 1) := by decide +kernel
theorem djdk_38_method_24_code_18 : decode jdk_38_method_24_code 18 = .ok (.iadd, 1) := by decide +kernel
theorem djdk_38_method_24_code_19 : decode jdk_38_method_24_code 19 = .ok (.putfield 48, 3) := by decide +kernel
theorem djdk_38_method_24_code_22 : decode jdk_38_method_24_code 22 = .ok (.return_, 1) := by decide +kernel
theorem ef_rm20 (m_ : MethodId) (a : Addr) (ee : Addr) (de : Addr) : entryFrame m_ #[(.ref a), (.ref ee), (.ref de), (.int (0 : Int32))] 4 = mkF m_ 0 #[.val (.ref a), .val (.ref ee), .val (.ref de), .val (.int (0 : Int32))] [] := by first | (simp [entryFrame, mkF, argsToLocals, Value.category]; done) | rfl
set_option maxRecDepth 65536 in
set_option maxHeartbeats 40000000 in
theorem rm20 (l : Launch) (Z : State) (a0 : Array Value) (hw : ∀ d ∈ tables_1, d.before a0 Z = true) (a : Addr) (ee : Addr) (de : Addr) (kd : ClassId) (mc : Int32) (h0 : Heap) (n0 : Nat) (Z0 : n0 ≤ h0.size) (O : Old Z n0 h0) (S_D : Sta Z Z.heap "java/util/ArrayList" "DEFAULTCAPACITY_EMPTY_ELEMENTDATA" "[Ljava/lang/Object;" (.ref de)) (A_de : own_A Z Z.heap de kd (.object "java/lang/Object") 0 (fun x => (([] : List Value).getD x .null))) (E_a : Exa Z h0 a "java/util/ArrayList") (F_modCount_a : Fld Z h0 a "java/util/AbstractList" "modCount" "I" (.int mc)) (F_elementData_a : Fld Z h0 a "java/util/ArrayList" "elementData" "[Ljava/lang/Object;" (.ref de)) (F_size_a : Fld Z h0 a "java/util/ArrayList" "size" "I" (.int (0 : Int32))) (g_a : n0 ≤ a) (E_ee : Exa Z h0 ee "com/example/keep_count/keepcount/api/BatchResult$Rejection") :
    own_Met l Z (⟨"java/util/ArrayList", "add", "(Ljava/lang/Object;[Ljava/lang/Object;I)V"⟩ : MethodName) jdk_38_method_24_code 4 none ({ frames := 3, cells := 1, slots := 10, locals := 41 } : Room) #[(.ref a), (.ref ee), (.ref de), (.int (0 : Int32))] h0 (fun v h L => v = none ∧ Fr n0 L ∧ Keep h0 h [a]) := by
  refine own_body #[.val (.ref a), .val (.ref ee), .val (.ref de), .val (.int (0 : Int32))] (plainFor_of_name own_pn2) (fun m_ => ef_rm20 m_ a ee de) ?_
  intro p_ e_ s_ m_ below meth c_ s₁ X0 hx hby hml hret hlk hZ hown hnm e0
  have N0 := Fr.nil n0
  have KP := Keep.refl h0 [a]
  show own_Out p_ e_ below s_ _ _ _ s₁ (mkF m_ 0 #[.val (.ref a), .val (.ref ee), .val (.ref de), .val (.int (0 : Int32))] [])
  refine own_st s₁ (mkF m_ 7 #[.val (.ref a), .val (.ref ee), .val (.ref de), .val (.int (0 : Int32))] [(.ref a)]) (fun t_ k_ => ?_) ?_
  · refine XS.iloadN X0.here hx rfl (hb hby djdk_38_method_24_code_0) rfl ?_
    show Steps p_.tables e_ below (s₁.setTop (mkF m_ 1 #[.val (.ref a), .val (.ref ee), .val (.ref de), .val (.int (0 : Int32))] [(.int (0 : Int32))])) t_
    refine XS.aloadN X0.here hx rfl (hb hby djdk_38_method_24_code_1) rfl rfl ?_
    show Steps p_.tables e_ below (s₁.setTop (mkF m_ 2 #[.val (.ref a), .val (.ref ee), .val (.ref de), .val (.int (0 : Int32))] [(.ref de), (.int (0 : Int32))])) t_
    refine own_len X0 hx hZ e0 (A_de.ext O.2) (hb hby djdk_38_method_24_code_2) (0 : Int32) (by decide) _ ?_
    show Steps p_.tables e_ below (s₁.setTop (mkF m_ 3 #[.val (.ref a), .val (.ref ee), .val (.ref de), .val (.int (0 : Int32))] [(.int (0 : Int32)), (.int (0 : Int32))])) t_
    refine XS.icmpNo X0.here hx rfl (hb hby djdk_38_method_24_code_3) rfl (teq (by decide : (0 : Int32) = (0 : Int32))).2 ?_
    show Steps p_.tables e_ below (s₁.setTop (mkF m_ 6 #[.val (.ref a), .val (.ref ee), .val (.ref de), .val (.int (0 : Int32))] [])) t_
    refine XS.aloadN X0.here hx rfl (hb hby djdk_38_method_24_code_6) rfl rfl ?_
    show Steps p_.tables e_ below (s₁.setTop (mkF m_ 7 #[.val (.ref a), .val (.ref ee), .val (.ref de), .val (.int (0 : Int32))] [(.ref a)])) t_
    exact k_
  refine own_callP X0 hx hZ (y := (⟨"java/util/ArrayList", "grow", "()[Ljava/lang/Object;"⟩ : MethodName)) hown (hw _ (List.mem_of_getElem? (i := 138) rfl)) (hw _ (List.mem_of_getElem? (i := 139) rfl)) (hw _ (List.mem_of_getElem? (i := 141) rfl)) (hw _ (List.mem_of_getElem? (i := 140) rfl)) (hw _ (List.mem_of_getElem? (i := 11) rfl)) (hw _ (List.mem_of_getElem? (i := 142) rfl)) (by decide) a [] [] E_a (rm21 l Z a0 hw a de kd mc h0 n0 Z0 O S_D A_de E_a F_modCount_a F_elementData_a F_size_a g_a) 0 (by decide) (by decide) e0 (by rw [hml]; rfl) (lenOf own_pd6 rfl) rfl (Nat.le_of_eq rfl) (hb hby djdk_38_method_24_code_7) (by decide) (by decide) ?_
  intro v1 T1 L1 X1 q1
  obtain ⟨y1, ky1, rfl, g_y1, sz1, N1q, K1, Eq1, Fq1, Fq2, Fq3, Aq, Oq⟩ := q1
  have N1 := Fr.app N0 N1q
  have ne_a_y1 : a ≠ y1 := Nat.ne_of_lt (Nat.lt_of_lt_of_le E_a.lt sz1)
  have ne_ee_y1 : ee ≠ y1 := Nat.ne_of_lt (Nat.lt_of_lt_of_le E_ee.lt sz1)
  have sz_y1 : h0.size ≤ y1 := Nat.le_trans KP.1 sz1
  replace KP := KP.trans K1 (allS (Or.inl (List.mem_of_getElem? (i := 0) rfl)) all0)
  replace O := O.keep K1 (allS g_a all0)
  replace E_a := E_a.keep K1
  -- F_modCount_a is dropped: written by the callee
  -- F_elementData_a is dropped: written by the callee
  -- F_size_a is dropped: written by the callee
  replace E_ee := E_ee.keep K1
  replace Z0 : n0 ≤ T1.heap.size := Nat.le_trans Z0 K1.1
  have F_modCount_a := Fq1
  have F_elementData_a := Fq2
  have F_size_a := Fq3
  have A_y1 := Aq
  show own_Out p_ e_ below s_ _ _ _ T1 (mkF m_ 10 #[.val (.ref a), .val (.ref ee), .val (.ref de), .val (.int (0 : Int32))] [(.ref y1)])
  refine own_st T1 (mkF m_ 14 #[.val (.ref a), .val (.ref ee), .val (.ref y1), .val (.int (0 : Int32))] [(.ref ee), (.int (0 : Int32)), (.ref y1)]) (fun t_ k_ => ?_) ?_
  · refine XS.astoreN X1.here hx rfl (hb hby djdk_38_method_24_code_10) rfl rfl (l' := #[.val (.ref a), .val (.ref ee), .val (.ref y1), .val (.int (0 : Int32))]) rfl ?_
    show Steps p_.tables e_ below (T1.setTop (mkF m_ 11 #[.val (.ref a), .val (.ref ee), .val (.ref y1), .val (.int (0 : Int32))] [])) t_
    refine XS.aloadN X1.here hx rfl (hb hby djdk_38_method_24_code_11) rfl rfl ?_
    show Steps p_.tables e_ below (T1.setTop (mkF m_ 12 #[.val (.ref a), .val (.ref ee), .val (.ref y1), .val (.int (0 : Int32))] [(.ref y1)])) t_
    refine XS.iloadN X1.here hx rfl (hb hby djdk_38_method_24_code_12) rfl ?_
    show Steps p_.tables e_ below (T1.setTop (mkF m_ 13 #[.val (.ref a), .val (.ref ee), .val (.ref y1), .val (.int (0 : Int32))] [(.int (0 : Int32)), (.ref y1)])) t_
    refine XS.aloadN X1.here hx rfl (hb hby djdk_38_method_24_code_13) rfl rfl ?_
    show Steps p_.tables e_ below (T1.setTop (mkF m_ 14 #[.val (.ref a), .val (.ref ee), .val (.ref y1), .val (.int (0 : Int32))] [(.ref ee), (.int (0 : Int32)), (.ref y1)])) t_
    exact k_
  obtain ⟨T2, h2, X2, e2, W2, st2⟩ := own_stR X1 hx hZ rfl A_y1 Oq (Or.inr ⟨_, rfl, Ins.of_exa E_ee (hw _ (List.mem_of_getElem? (i := 154) rfl))⟩) 0 (by decide) (by decide) (j := (0 : Int32)) (v := (.ref ee)) (Ls := #[.val (.ref a), .val (.ref ee), .val (.ref y1), .val (.int (0 : Int32))]) (rest := []) (hb hby djdk_38_method_24_code_14)
  have N2 := Fr.snoc X2 N1 g_y1
  replace Z0 : n0 ≤ h2.size := W2.size ▸ Z0
  replace KP := KP.wr W2 (Or.inr sz_y1)
  replace O := O.wr W2 g_y1
  replace E_a := E_a.wr W2
  replace E_ee := E_ee.wr W2
  replace F_modCount_a := F_modCount_a.other W2 (Or.inl ne_a_y1)
  replace F_elementData_a := F_elementData_a.other W2 (Or.inl ne_a_y1)
  replace F_size_a := F_size_a.other W2 (Or.inl ne_a_y1)
  replace A_y1 : own_A Z h2 y1 ky1 (.object "java/lang/Object") 10 (fun x_ => (([(.ref ee), .null, .null, .null, .null, .null, .null, .null, .null, .null] : List Value).getD x_ .null)) := A_y1.setL (by decide) (Nat.le_of_ble_eq_true rfl) W2
  refine own_st T2 (mkF m_ 15 #[.val (.ref a), .val (.ref ee), .val (.ref y1), .val (.int (0 : Int32))] []) st2 ?_
  refine own_st T2 (mkF m_ 19 #[.val (.ref a), .val (.ref ee), .val (.ref y1), .val (.int (0 : Int32))] [(.int (1 : Int32)), (.ref a)]) (fun t_ k_ => ?_) ?_
  · refine XS.aloadN X2.here hx rfl (hb hby djdk_38_method_24_code_15) rfl rfl ?_
    show Steps p_.tables e_ below (T2.setTop (mkF m_ 16 #[.val (.ref a), .val (.ref ee), .val (.ref y1), .val (.int (0 : Int32))] [(.ref a)])) t_
    refine XS.iloadN X2.here hx rfl (hb hby djdk_38_method_24_code_16) rfl ?_
    show Steps p_.tables e_ below (T2.setTop (mkF m_ 17 #[.val (.ref a), .val (.ref ee), .val (.ref y1), .val (.int (0 : Int32))] [(.int (0 : Int32)), (.ref a)])) t_
    refine XS.iconst X2.here hx rfl (hb hby djdk_38_method_24_code_17) ?_
    show Steps p_.tables e_ below (T2.setTop (mkF m_ 18 #[.val (.ref a), .val (.ref ee), .val (.ref y1), .val (.int (0 : Int32))] [(.int (1 : Int32)), (.int (0 : Int32)), (.ref a)])) t_
    refine XS.iadd X2.here hx rfl (hb hby djdk_38_method_24_code_18) rfl ?_
    show Steps p_.tables e_ below (T2.setTop (mkF m_ 19 #[.val (.ref a), .val (.ref ee), .val (.ref y1), .val (.int (0 : Int32))] [(.int (1 : Int32)), (.ref a)])) t_
    exact k_
  obtain ⟨T3, h3, X3, e3, W3, st3⟩ := putF X2 hx hZ hown (host := "") (Or.inl (hw _ (List.mem_of_getElem? (i := 105) rfl))) Via.refl e2 F_size_a E_a (Or.inl (hw _ (List.mem_of_getElem? (i := 106) rfl))) (hw _ (List.mem_of_getElem? (i := 10) rfl)) (ty := .int) (by decide) rfl rfl (g := (mkF m_ 19 #[.val (.ref a), .val (.ref ee), .val (.ref y1), .val (.int (0 : Int32))] [(.int (1 : Int32)), (.ref a)])) rfl rfl (hb hby djdk_38_method_24_code_19)
  have N3 := Fr.snoc X3 N2 g_a
  replace Z0 : n0 ≤ h3.size := W3.size ▸ Z0
  replace KP := KP.wr W3 (Or.inl (List.mem_of_getElem? (i := 0) rfl))
  replace O := O.wr W3 g_a
  replace E_a := E_a.wr W3
  replace E_ee := E_ee.wr W3
  replace F_modCount_a := F_modCount_a.other W3 (Or.inr (slot_ne (Or.inl (hw _ (List.mem_of_getElem? (i := 29) rfl))) (Or.inl (hw _ (List.mem_of_getElem? (i := 106) rfl))) (by decide) (t := .int) (t' := .int) (by decide) (by decide)))
  replace F_elementData_a := F_elementData_a.other W3 (Or.inr (slot_ne (Or.inl (hw _ (List.mem_of_getElem? (i := 32) rfl))) (Or.inl (hw _ (List.mem_of_getElem? (i := 106) rfl))) (by decide) (t := (.array (.object "java/lang/Object"))) (t' := .int) (by decide) (by decide)))
  replace A_y1 := A_y1.other W3 (Ne.symm ne_a_y1)
  replace F_size_a := F_size_a.same W3
  refine own_st T3 (mkF m_ 22 #[.val (.ref a), .val (.ref ee), .val (.ref y1), .val (.int (0 : Int32))] []) st3 ?_
  refine own_ret0 X3 hx hlk hret (hb hby djdk_38_method_24_code_22) (by decide) (by decide) ?_
  rw [e3]
  exact ⟨rfl, N3, KP⟩
theorem djdk_38_method_25_code_0 : decode jdk_38_method_25_code 0 = .ok (.aload_n 0, 1) := by decide +kernel
theorem djdk_38_method_25_code_1 : decode jdk_38_method_25_code 1 = .ok (.dup, 1) := by decide +kernel
theorem djdk_38_method_25_code_2 : decode jdk_38_method_25_code 2 = .ok (.getfield 63, 3) := by decide +kernel
theorem djdk_38_method_25_code_5 : decode jdk_38_method_25_code 5 = .ok (.iconst 1, 1) := by decide +kernel
theorem djdk_38_method_25_code_6 : decode jdk_38_method_25_code 6 = .ok (.iadd, 1) := by decide +kernel
theorem djdk_38_method_25_code_7 : decode jdk_38_method_25_code 7 = .ok (.putfield 63, 3) := by decide +kernel
theorem djdk_38_method_25_code_10 : decode jdk_38_method_25_code 10 = .ok (.aload_n 0, 1) := by decide +kernel
theorem djdk_38_method_25_code_11 : decode jdk_38_method_25_code 11 = .ok (.aload_n 1, 1) := by decide +kernel
theorem djdk_38_method_25_code_12 : decode jdk_38_method_25_code 12 = .ok (.aload_n 0, 1) := by decide +kernel
theorem djdk_38_method_25_code_13 : decode jdk_38_method_25_code 13 = .ok (.getfield 9, 3) := by decide +kernel
theorem djdk_38_method_25_code_16 : decode jdk_38_method_25_code 16 = .ok (.aload_n 0, 1) := by decide +kernel
theorem djdk_38_method_25_code_17 : decode jdk_38_method_25_code 17 = .ok (.getfield 48, 3) := by decide +kernel
theorem own_pd7 : parseMethodDescriptor "(Ljava/lang/Object;[Ljava/lang/Object;I)V" = some ⟨[(.object "java/lang/Object"), (.array (.object "java/lang/Object")), .int], none⟩ := by decide +kernel
theorem djdk_38_method_25_code_20 : decode jdk_38_method_25_code 20 = .ok (.invokevirtual 131, 3) := by decide +kernel
theorem djdk_38_method_25_code_23 : decode jdk_38_method_25_code 23 = .ok (.iconst 1, 1) := by decide +kernel
theorem djdk_38_method_25_code_24 : decode jdk_38_method_25_code 24 = .ok (.ireturn, 1) := by decide +kernel
theorem ef_rm19 (m_ : MethodId) (a : Addr) (ee : Addr) : entryFrame m_ #[(.ref a), (.ref ee)] 2 = mkF m_ 0 #[.val (.ref a), .val (.ref ee)] [] := by first | (simp [entryFrame, mkF, argsToLocals, Value.category]; done) | rfl
set_option maxRecDepth 65536 in
set_option maxHeartbeats 40000000 in
theorem rm19 (l : Launch) (Z : State) (a0 : Array Value) (hw : ∀ d ∈ tables_1, d.before a0 Z = true) (a : Addr) (ee : Addr) (de : Addr) (kd : ClassId) (mc : Int32) (h0 : Heap) (n0 : Nat) (Z0 : n0 ≤ h0.size) (O : Old Z n0 h0) (S_D : Sta Z Z.heap "java/util/ArrayList" "DEFAULTCAPACITY_EMPTY_ELEMENTDATA" "[Ljava/lang/Object;" (.ref de)) (A_de : own_A Z Z.heap de kd (.object "java/lang/Object") 0 (fun x => (([] : List Value).getD x .null))) (E_a : Exa Z h0 a "java/util/ArrayList") (F_modCount_a : Fld Z h0 a "java/util/AbstractList" "modCount" "I" (.int mc)) (F_elementData_a : Fld Z h0 a "java/util/ArrayList" "elementData" "[Ljava/lang/Object;" (.ref de)) (F_size_a : Fld Z h0 a "java/util/ArrayList" "size" "I" (.int (0 : Int32))) (g_a : n0 ≤ a) (E_ee : Exa Z h0 ee "com/example/keep_count/keepcount/api/BatchResult$Rejection") :
    own_Met l Z (⟨"java/util/ArrayList", "add", "(Ljava/lang/Object;)Z"⟩ : MethodName) jdk_38_method_25_code 2 (some .boolean) ({ frames := 4, cells := 1, slots := 10, locals := 56 } : Room) #[(.ref a), (.ref ee)] h0 (fun v h L => v = some (.int 1) ∧ Fr n0 L ∧ Keep h0 h [a]) := by
  refine own_body #[.val (.ref a), .val (.ref ee)] (plainFor_of_name own_pn2) (fun m_ => ef_rm19 m_ a ee) ?_
  intro p_ e_ s_ m_ below meth c_ s₁ X0 hx hby hml hret hlk hZ hown hnm e0
  have N0 := Fr.nil n0
  have KP := Keep.refl h0 [a]
  show own_Out p_ e_ below s_ _ _ _ s₁ (mkF m_ 0 #[.val (.ref a), .val (.ref ee)] [])
  refine own_st s₁ (mkF m_ 2 #[.val (.ref a), .val (.ref ee)] [(.ref a), (.ref a)]) (fun t_ k_ => ?_) ?_
  · refine XS.aloadN X0.here hx rfl (hb hby djdk_38_method_25_code_0) rfl rfl ?_
    show Steps p_.tables e_ below (s₁.setTop (mkF m_ 1 #[.val (.ref a), .val (.ref ee)] [(.ref a)])) t_
    refine XS.dup X0.here hx rfl (hb hby djdk_38_method_25_code_1) rfl rfl ?_
    show Steps p_.tables e_ below (s₁.setTop (mkF m_ 2 #[.val (.ref a), .val (.ref ee)] [(.ref a), (.ref a)])) t_
    exact k_
  obtain ⟨T1, X1, e1, st1⟩ := getF X0 hx hZ hown (host := "") (Or.inl (hw _ (List.mem_of_getElem? (i := 131) rfl))) (Via.of (hw _ (List.mem_of_getElem? (i := 132) rfl))) e0 F_modCount_a (g := (mkF m_ 2 #[.val (.ref a), .val (.ref ee)] [(.ref a), (.ref a)])) rfl rfl (hb hby djdk_38_method_25_code_2)
  refine own_st T1 (mkF m_ 5 #[.val (.ref a), .val (.ref ee)] [(.int mc), (.ref a)]) st1 ?_
  refine own_st T1 (mkF m_ 7 #[.val (.ref a), .val (.ref ee)] [(.int (mc + (1 : Int32))), (.ref a)]) (fun t_ k_ => ?_) ?_
  · refine XS.iconst X1.here hx rfl (hb hby djdk_38_method_25_code_5) ?_
    show Steps p_.tables e_ below (T1.setTop (mkF m_ 6 #[.val (.ref a), .val (.ref ee)] [(.int (1 : Int32)), (.int mc), (.ref a)])) t_
    refine XS.iadd X1.here hx rfl (hb hby djdk_38_method_25_code_6) rfl ?_
    show Steps p_.tables e_ below (T1.setTop (mkF m_ 7 #[.val (.ref a), .val (.ref ee)] [(.int (mc + (1 : Int32))), (.ref a)])) t_
    exact k_
  obtain ⟨T2, h2, X2, e2, W2, st2⟩ := putF X1 hx hZ hown (host := "") (Or.inl (hw _ (List.mem_of_getElem? (i := 131) rfl))) (Via.of (hw _ (List.mem_of_getElem? (i := 132) rfl))) e1 F_modCount_a E_a (Or.inl (hw _ (List.mem_of_getElem? (i := 29) rfl))) (hw _ (List.mem_of_getElem? (i := 10) rfl)) (ty := .int) (by decide) rfl rfl (g := (mkF m_ 7 #[.val (.ref a), .val (.ref ee)] [(.int (mc + (1 : Int32))), (.ref a)])) rfl rfl (hb hby djdk_38_method_25_code_7)
  have N2 := Fr.snoc X2 N0 g_a
  replace Z0 : n0 ≤ h2.size := W2.size ▸ Z0
  replace KP := KP.wr W2 (Or.inl (List.mem_of_getElem? (i := 0) rfl))
  replace O := O.wr W2 g_a
  replace E_a := E_a.wr W2
  replace F_elementData_a := F_elementData_a.other W2 (Or.inr (slot_ne (Or.inl (hw _ (List.mem_of_getElem? (i := 32) rfl))) (Or.inl (hw _ (List.mem_of_getElem? (i := 29) rfl))) (by decide) (t := (.array (.object "java/lang/Object"))) (t' := .int) (by decide) (by decide)))
  replace F_size_a := F_size_a.other W2 (Or.inr (slot_ne (Or.inl (hw _ (List.mem_of_getElem? (i := 106) rfl))) (Or.inl (hw _ (List.mem_of_getElem? (i := 29) rfl))) (by decide) (t := .int) (t' := .int) (by decide) (by decide)))
  replace E_ee := E_ee.wr W2
  replace F_modCount_a := F_modCount_a.same W2
  refine own_st T2 (mkF m_ 10 #[.val (.ref a), .val (.ref ee)] []) st2 ?_
  refine own_st T2 (mkF m_ 13 #[.val (.ref a), .val (.ref ee)] [(.ref a), (.ref ee), (.ref a)]) (fun t_ k_ => ?_) ?_
  · refine XS.aloadN X2.here hx rfl (hb hby djdk_38_method_25_code_10) rfl rfl ?_
    show Steps p_.tables e_ below (T2.setTop (mkF m_ 11 #[.val (.ref a), .val (.ref ee)] [(.ref a)])) t_
    refine XS.aloadN X2.here hx rfl (hb hby djdk_38_method_25_code_11) rfl rfl ?_
    show Steps p_.tables e_ below (T2.setTop (mkF m_ 12 #[.val (.ref a), .val (.ref ee)] [(.ref ee), (.ref a)])) t_
    refine XS.aloadN X2.here hx rfl (hb hby djdk_38_method_25_code_12) rfl rfl ?_
    show Steps p_.tables e_ below (T2.setTop (mkF m_ 13 #[.val (.ref a), .val (.ref ee)] [(.ref a), (.ref ee), (.ref a)])) t_
    exact k_
  obtain ⟨T3, X3, e3, st3⟩ := getF X2 hx hZ hown (host := "") (Or.inl (hw _ (List.mem_of_getElem? (i := 31) rfl))) Via.refl e2 F_elementData_a (g := (mkF m_ 13 #[.val (.ref a), .val (.ref ee)] [(.ref a), (.ref ee), (.ref a)])) rfl rfl (hb hby djdk_38_method_25_code_13)
  refine own_st T3 (mkF m_ 16 #[.val (.ref a), .val (.ref ee)] [(.ref de), (.ref ee), (.ref a)]) st3 ?_
  refine own_st T3 (mkF m_ 17 #[.val (.ref a), .val (.ref ee)] [(.ref a), (.ref de), (.ref ee), (.ref a)]) (fun t_ k_ => ?_) ?_
  · refine XS.aloadN X3.here hx rfl (hb hby djdk_38_method_25_code_16) rfl rfl ?_
    show Steps p_.tables e_ below (T3.setTop (mkF m_ 17 #[.val (.ref a), .val (.ref ee)] [(.ref a), (.ref de), (.ref ee), (.ref a)])) t_
    exact k_
  obtain ⟨T4, X4, e4, st4⟩ := getF X3 hx hZ hown (host := "") (Or.inl (hw _ (List.mem_of_getElem? (i := 105) rfl))) Via.refl e3 F_size_a (g := (mkF m_ 17 #[.val (.ref a), .val (.ref ee)] [(.ref a), (.ref de), (.ref ee), (.ref a)])) rfl rfl (hb hby djdk_38_method_25_code_17)
  refine own_st T4 (mkF m_ 20 #[.val (.ref a), .val (.ref ee)] [(.int (0 : Int32)), (.ref de), (.ref ee), (.ref a)]) st4 ?_
  refine own_callP X4 hx hZ (y := (⟨"java/util/ArrayList", "add", "(Ljava/lang/Object;[Ljava/lang/Object;I)V"⟩ : MethodName)) hown (hw _ (List.mem_of_getElem? (i := 133) rfl)) (hw _ (List.mem_of_getElem? (i := 134) rfl)) (hw _ (List.mem_of_getElem? (i := 136) rfl)) (hw _ (List.mem_of_getElem? (i := 135) rfl)) (hw _ (List.mem_of_getElem? (i := 11) rfl)) (hw _ (List.mem_of_getElem? (i := 137) rfl)) (by decide) a [(.ref ee), (.ref de), (.int (0 : Int32))] [] E_a (rm20 l Z a0 hw a ee de kd (mc + (1 : Int32)) h2 n0 Z0 O S_D A_de E_a F_modCount_a F_elementData_a F_size_a g_a E_ee) 0 (by decide) (by decide) e4 (by rw [hml]; rfl) (lenOf own_pd7 rfl) rfl (Nat.le_of_eq rfl) (hb hby djdk_38_method_25_code_20) (by decide) (by decide) ?_
  intro v5 T5 L5 X5 q5
  obtain ⟨rfl, N5q, K5⟩ := q5
  have N5 := Fr.app N2 N5q
  replace KP := KP.trans K5 (allS (Or.inl (List.mem_of_getElem? (i := 0) rfl)) all0)
  replace O := O.keep K5 (allS g_a all0)
  replace E_a := E_a.keep K5
  -- F_modCount_a is dropped: written by the callee
  -- F_elementData_a is dropped: written by the callee
  -- F_size_a is dropped: written by the callee
  replace E_ee := E_ee.keep K5
  replace Z0 : n0 ≤ T5.heap.size := Nat.le_trans Z0 K5.1
  show own_Out p_ e_ below s_ _ _ _ T5 (mkF m_ 23 #[.val (.ref a), .val (.ref ee)] [])
  refine own_st T5 (mkF m_ 24 #[.val (.ref a), .val (.ref ee)] [(.int (1 : Int32))]) (fun t_ k_ => ?_) ?_
  · refine XS.iconst X5.here hx rfl (hb hby djdk_38_method_25_code_23) ?_
    show Steps p_.tables e_ below (T5.setTop (mkF m_ 24 #[.val (.ref a), .val (.ref ee)] [(.int (1 : Int32))])) t_
    exact k_
  refine own_retN X5 hx hlk (t := .boolean) hret (by simp) (hb hby djdk_38_method_25_code_24) (by decide) (by decide) ?_
  exact ⟨rfl, N5, KP⟩
theorem dprog_11_method_3_code_0 : decode prog_11_method_3_code 0 = .ok (.aload_n 0, 1) := by decide +kernel
theorem dprog_11_method_3_code_1 : decode prog_11_method_3_code 1 = .ok (.dup, 1) := by decide +kernel
theorem dprog_11_method_3_code_2 : decode prog_11_method_3_code 2 = .ok (.getfield 23, 3) := by decide +kernel
theorem dprog_11_method_3_code_5 : decode prog_11_method_3_code 5 = .ok (.lconst 1, 1) := by decide +kernel
theorem dprog_11_method_3_code_6 : decode prog_11_method_3_code 6 = .ok (.ladd, 1) := by decide +kernel
theorem dprog_11_method_3_code_7 : decode prog_11_method_3_code 7 = .ok (.putfield 23, 3) := by decide +kernel
theorem dprog_11_method_3_code_10 : decode prog_11_method_3_code 10 = .ok (.aload_n 0, 1) := by decide +kernel
theorem dprog_11_method_3_code_11 : decode prog_11_method_3_code 11 = .ok (.getfield 10, 3) := by decide +kernel
theorem own_pd8 : parseMethodDescriptor "()I" = some ⟨[], some .int⟩ := by decide +kernel
theorem dprog_11_method_3_code_14 : decode prog_11_method_3_code 14 = .ok (.invokeinterface 26 1, 5) := by decide +kernel
theorem dprog_11_method_3_code_19 : decode prog_11_method_3_code 19 = .ok (.bipush 100, 2) := by decide +kernel
theorem dprog_11_method_3_code_21 : decode prog_11_method_3_code 21 = .ok (.if_icmp .ge 22, 3) := by decide +kernel
theorem dprog_11_method_3_code_24 : decode prog_11_method_3_code 24 = .ok (.aload_n 0, 1) := by decide +kernel
theorem dprog_11_method_3_code_25 : decode prog_11_method_3_code 25 = .ok (.getfield 10, 3) := by decide +kernel
theorem dprog_11_method_3_code_28 : decode prog_11_method_3_code 28 = .ok (.new 32, 3) := by decide +kernel
theorem dprog_11_method_3_code_31 : decode prog_11_method_3_code 31 = .ok (.dup, 1) := by decide +kernel
theorem dprog_11_method_3_code_32 : decode prog_11_method_3_code 32 = .ok (.lload_n 1, 1) := by decide +kernel
theorem dprog_11_method_3_code_33 : decode prog_11_method_3_code 33 = .ok (.aload_n 3, 1) := by decide +kernel
theorem own_pd9 : parseMethodDescriptor "(JLjava/lang/String;)V" = some ⟨[.long, (.object "java/lang/String")], none⟩ := by decide +kernel
theorem dprog_11_method_3_code_34 : decode prog_11_method_3_code 34 = .ok (.invokespecial 34, 3) := by decide +kernel
theorem own_pd10 : parseMethodDescriptor "(Ljava/lang/Object;)Z" = some ⟨[(.object "java/lang/Object")], some .boolean⟩ := by decide +kernel
theorem dprog_11_method_3_code_37 : decode prog_11_method_3_code 37 = .ok (.invokeinterface 37 2, 5) := by decide +kernel
theorem dprog_11_method_3_code_42 : decode prog_11_method_3_code 42 = .ok (.pop, 1) := by decide +kernel
theorem dprog_11_method_3_code_43 : decode prog_11_method_3_code 43 = .ok (.return_, 1) := by decide +kernel
theorem ef_rm15 (m_ : MethodId) (a : Addr) (ln : Int64) (er : Addr) : entryFrame m_ #[(.ref a), (.long ln), (.ref er)] 4 = mkF m_ 0 #[.val (.ref a), .val (.long ln), .second, .val (.ref er)] [] := by first | (simp [entryFrame, mkF, argsToLocals, Value.category]; done) | rfl
set_option maxRecDepth 65536 in
set_option maxHeartbeats 40000000 in
theorem rm15 (l : Launch) (Z : State) (a0 : Array Value) (hw : ∀ d ∈ tables_1, d.before a0 Z = true) (a : Addr) (ln : Int64) (er : Addr) (de y : Addr) (kd : ClassId) (al dn rj : Int64) (h0 : Heap) (n0 : Nat) (Z0 : n0 ≤ h0.size) (O : Old Z n0 h0) (S_D : Sta Z Z.heap "java/util/ArrayList" "DEFAULTCAPACITY_EMPTY_ELEMENTDATA" "[Ljava/lang/Object;" (.ref de)) (A_de : own_A Z Z.heap de kd (.object "java/lang/Object") 0 (fun x => (([] : List Value).getD x .null))) (E_a : Exa Z h0 a "com/example/keep_count/keepcount/api/BatchResult") (F_allowed_a : Fld Z h0 a "com/example/keep_count/keepcount/api/BatchResult" "allowed" "J" (.long al)) (F_denied_a : Fld Z h0 a "com/example/keep_count/keepcount/api/BatchResult" "denied" "J" (.long dn)) (F_rejected_a : Fld Z h0 a "com/example/keep_count/keepcount/api/BatchResult" "rejected" "J" (.long rj)) (F_rejections_a : Fld Z h0 a "com/example/keep_count/keepcount/api/BatchResult" "rejections" "Ljava/util/List;" (.ref y)) (E_y : Exa Z h0 y "java/util/ArrayList") (F_modCount_y : Fld Z h0 y "java/util/AbstractList" "modCount" "I" (.int (0 : Int32))) (F_elementData_y : Fld Z h0 y "java/util/ArrayList" "elementData" "[Ljava/lang/Object;" (.ref de)) (F_size_y : Fld Z h0 y "java/util/ArrayList" "size" "I" (.int (0 : Int32))) (g_a : n0 ≤ a) (g_y : n0 ≤ y) (ne_y_a : y ≠ a) :
    own_Met l Z (⟨"com/example/keep_count/keepcount/api/BatchResult", "rejected", "(JLjava/lang/String;)V"⟩ : MethodName) prog_11_method_3_code 4 none ({ frames := 5, cells := 2, slots := 12, locals := 69 } : Room) #[(.ref a), (.long ln), (.ref er)] h0 (fun v h L => v = none ∧ Fr n0 L ∧ Keep h0 h [a, y] ∧ Fld Z h a "com/example/keep_count/keepcount/api/BatchResult" "allowed" "J" (.long al) ∧ Fld Z h a "com/example/keep_count/keepcount/api/BatchResult" "denied" "J" (.long dn) ∧ Fld Z h a "com/example/keep_count/keepcount/api/BatchResult" "rejected" "J" (.long (rj + (1 : Int64)))) := by
  refine own_body #[.val (.ref a), .val (.long ln), .second, .val (.ref er)] (plainFor_of_name own_pn3) (fun m_ => ef_rm15 m_ a ln er) ?_
  intro p_ e_ s_ m_ below meth c_ s₁ X0 hx hby hml hret hlk hZ hown hnm e0
  have N0 := Fr.nil n0
  have KP := Keep.refl h0 [a, y]
  show own_Out p_ e_ below s_ _ _ _ s₁ (mkF m_ 0 #[.val (.ref a), .val (.long ln), .second, .val (.ref er)] [])
  refine own_st s₁ (mkF m_ 2 #[.val (.ref a), .val (.long ln), .second, .val (.ref er)] [(.ref a), (.ref a)]) (fun t_ k_ => ?_) ?_
  · refine XS.aloadN X0.here hx rfl (hb hby dprog_11_method_3_code_0) rfl rfl ?_
    show Steps p_.tables e_ below (s₁.setTop (mkF m_ 1 #[.val (.ref a), .val (.long ln), .second, .val (.ref er)] [(.ref a)])) t_
    refine XS.dup X0.here hx rfl (hb hby dprog_11_method_3_code_1) rfl rfl ?_
    show Steps p_.tables e_ below (s₁.setTop (mkF m_ 2 #[.val (.ref a), .val (.long ln), .second, .val (.ref er)] [(.ref a), (.ref a)])) t_
    exact k_
  obtain ⟨T1, X1, e1, st1⟩ := getF X0 hx hZ hown (host := "") (Or.inl (hw _ (List.mem_of_getElem? (i := 60) rfl))) Via.refl e0 F_rejected_a (g := (mkF m_ 2 #[.val (.ref a), .val (.long ln), .second, .val (.ref er)] [(.ref a), (.ref a)])) rfl rfl (hb hby dprog_11_method_3_code_2)
  refine own_st T1 (mkF m_ 5 #[.val (.ref a), .val (.long ln), .second, .val (.ref er)] [(.long rj), (.ref a)]) st1 ?_
  refine own_st T1 (mkF m_ 7 #[.val (.ref a), .val (.long ln), .second, .val (.ref er)] [(.long (rj + (1 : Int64))), (.ref a)]) (fun t_ k_ => ?_) ?_
  · refine XS.lconst X1.here hx rfl (hb hby dprog_11_method_3_code_5) ?_
    show Steps p_.tables e_ below (T1.setTop (mkF m_ 6 #[.val (.ref a), .val (.long ln), .second, .val (.ref er)] [(.long (1 : Int64)), (.long rj), (.ref a)])) t_
    refine XS.ladd X1.here hx rfl (hb hby dprog_11_method_3_code_6) rfl ?_
    show Steps p_.tables e_ below (T1.setTop (mkF m_ 7 #[.val (.ref a), .val (.long ln), .second, .val (.ref er)] [(.long (rj + (1 : Int64))), (.ref a)])) t_
    exact k_
  obtain ⟨T2, h2, X2, e2, W2, st2⟩ := putF X1 hx hZ hown (host := "") (Or.inl (hw _ (List.mem_of_getElem? (i := 60) rfl))) Via.refl e1 F_rejected_a E_a (Or.inl (hw _ (List.mem_of_getElem? (i := 61) rfl))) (hw _ (List.mem_of_getElem? (i := 1) rfl)) (ty := .long) (by decide) rfl rfl (g := (mkF m_ 7 #[.val (.ref a), .val (.long ln), .second, .val (.ref er)] [(.long (rj + (1 : Int64))), (.ref a)])) rfl rfl (hb hby dprog_11_method_3_code_7)
  have N2 := Fr.snoc X2 N0 g_a
  replace Z0 : n0 ≤ h2.size := W2.size ▸ Z0
  replace KP := KP.wr W2 (Or.inl (List.mem_of_getElem? (i := 0) rfl))
  replace O := O.wr W2 g_a
  replace E_a := E_a.wr W2
  replace F_allowed_a := F_allowed_a.other W2 (Or.inr (slot_ne (Or.inl (hw _ (List.mem_of_getElem? (i := 48) rfl))) (Or.inl (hw _ (List.mem_of_getElem? (i := 61) rfl))) (by decide) (t := .long) (t' := .long) (by decide) (by decide)))
  replace F_denied_a := F_denied_a.other W2 (Or.inr (slot_ne (Or.inl (hw _ (List.mem_of_getElem? (i := 41) rfl))) (Or.inl (hw _ (List.mem_of_getElem? (i := 61) rfl))) (by decide) (t := .long) (t' := .long) (by decide) (by decide)))
  replace F_rejections_a := F_rejections_a.other W2 (Or.inr (slot_ne (Or.inr (hw _ (List.mem_of_getElem? (i := 34) rfl))) (Or.inl (hw _ (List.mem_of_getElem? (i := 61) rfl))) (by decide) (t := (.object "java/util/List")) (t' := .long) (by decide) (by decide)))
  replace E_y := E_y.wr W2
  replace F_modCount_y := F_modCount_y.other W2 (Or.inl ne_y_a)
  replace F_elementData_y := F_elementData_y.other W2 (Or.inl ne_y_a)
  replace F_size_y := F_size_y.other W2 (Or.inl ne_y_a)
  replace F_rejected_a := F_rejected_a.same W2
  refine own_st T2 (mkF m_ 10 #[.val (.ref a), .val (.long ln), .second, .val (.ref er)] []) st2 ?_
  refine own_st T2 (mkF m_ 11 #[.val (.ref a), .val (.long ln), .second, .val (.ref er)] [(.ref a)]) (fun t_ k_ => ?_) ?_
  · refine XS.aloadN X2.here hx rfl (hb hby dprog_11_method_3_code_10) rfl rfl ?_
    show Steps p_.tables e_ below (T2.setTop (mkF m_ 11 #[.val (.ref a), .val (.long ln), .second, .val (.ref er)] [(.ref a)])) t_
    exact k_
  obtain ⟨T3, X3, e3, st3⟩ := getF X2 hx hZ hown (host := "") (Or.inl (hw _ (List.mem_of_getElem? (i := 33) rfl))) Via.refl e2 F_rejections_a (g := (mkF m_ 11 #[.val (.ref a), .val (.long ln), .second, .val (.ref er)] [(.ref a)])) rfl rfl (hb hby dprog_11_method_3_code_11)
  refine own_st T3 (mkF m_ 14 #[.val (.ref a), .val (.long ln), .second, .val (.ref er)] [(.ref y)]) st3 ?_
  refine own_callI X3 hx hZ (xi := (⟨"java/util/List", "size", "()I"⟩ : MethodName)) (y := (⟨"java/util/ArrayList", "size", "()I"⟩ : MethodName)) hown (mvT hZ (hw _ (List.mem_of_getElem? (i := 96) rfl))) (mvT hZ (hw _ (List.mem_of_getElem? (i := 97) rfl))) (mvT hZ (hw _ (List.mem_of_getElem? (i := 98) rfl))) (mvT hZ (hw _ (List.mem_of_getElem? (i := 99) rfl))) (mvT hZ (hw _ (List.mem_of_getElem? (i := 100) rfl))) (mvT hZ (hw _ (List.mem_of_getElem? (i := 101) rfl))) (mvT hZ (hw _ (List.mem_of_getElem? (i := 102) rfl))) (mvT hZ (hw _ (List.mem_of_getElem? (i := 103) rfl))) (hw _ (List.mem_of_getElem? (i := 11) rfl)) (hw _ (List.mem_of_getElem? (i := 104) rfl)) (by decide) y [] [] E_y (rm16 l Z a0 hw y h2 n0 Z0 F_size_y) 0 (by decide) (by decide) e3 (by rw [hml]; rfl) (lenOf own_pd8 rfl) rfl (Nat.le_of_eq rfl) (hb hby dprog_11_method_3_code_14) (by decide) (by decide) ?_
  intro v4 T4 L4 X4 q4
  obtain ⟨rfl, N4q, e4⟩ := q4
  have N4 := Fr.app N2 N4q
  show own_Out p_ e_ below s_ _ _ _ T4 (mkF m_ 19 #[.val (.ref a), .val (.long ln), .second, .val (.ref er)] [(.int (0 : Int32))])
  refine own_st T4 (mkF m_ 25 #[.val (.ref a), .val (.long ln), .second, .val (.ref er)] [(.ref a)]) (fun t_ k_ => ?_) ?_
  · refine XS.bipush X4.here hx rfl (hb hby dprog_11_method_3_code_19) ?_
    show Steps p_.tables e_ below (T4.setTop (mkF m_ 21 #[.val (.ref a), .val (.long ln), .second, .val (.ref er)] [(.int (100 : Int32)), (.int (0 : Int32))])) t_
    refine XS.icmpNo X4.here hx rfl (hb hby dprog_11_method_3_code_21) rfl (tlt (by decide : (0 : Int32) < (100 : Int32))).2.1 ?_
    show Steps p_.tables e_ below (T4.setTop (mkF m_ 24 #[.val (.ref a), .val (.long ln), .second, .val (.ref er)] [])) t_
    refine XS.aloadN X4.here hx rfl (hb hby dprog_11_method_3_code_24) rfl rfl ?_
    show Steps p_.tables e_ below (T4.setTop (mkF m_ 25 #[.val (.ref a), .val (.long ln), .second, .val (.ref er)] [(.ref a)])) t_
    exact k_
  obtain ⟨T5, X5, e5, st5⟩ := getF X4 hx hZ hown (host := "") (Or.inl (hw _ (List.mem_of_getElem? (i := 33) rfl))) Via.refl e4 F_rejections_a (g := (mkF m_ 25 #[.val (.ref a), .val (.long ln), .second, .val (.ref er)] [(.ref a)])) rfl rfl (hb hby dprog_11_method_3_code_25)
  refine own_st T5 (mkF m_ 28 #[.val (.ref a), .val (.long ln), .second, .val (.ref er)] [(.ref y)]) st5 ?_
  obtain ⟨T6, h6, X6, e6, E6, A6, D6, -, st6⟩ := newO X5 hx hZ hown (hw _ (List.mem_of_getElem? (i := 107) rfl)) (hw _ (List.mem_of_getElem? (i := 108) rfl)) (hw _ (List.mem_of_getElem? (i := 109) rfl)) e5 (g := (mkF m_ 28 #[.val (.ref a), .val (.long ln), .second, .val (.ref er)] [(.ref y)])) rfl (hb hby dprog_11_method_3_code_28) (by decide) (by decide)
  obtain ⟨b6, g6⟩ : ∃ z, z = h2.size := ⟨_, rfl⟩
  rw [← g6] at A6 D6 st6
  have g_b6 : n0 ≤ b6 := g6 ▸ Z0
  have sz_b6 : h0.size ≤ b6 := g6 ▸ KP.1
  have ne_a_b6 : a ≠ b6 := Nat.ne_of_lt (Nat.lt_of_lt_of_le E_a.lt (Nat.le_of_eq g6.symm))
  have ne_y_b6 : y ≠ b6 := Nat.ne_of_lt (Nat.lt_of_lt_of_le E_y.lt (Nat.le_of_eq g6.symm))
  replace KP := KP.ext E6
  replace O := O.ext E6
  replace E_a := E_a.ext E6
  replace F_allowed_a := F_allowed_a.ext E6
  replace F_denied_a := F_denied_a.ext E6
  replace F_rejected_a := F_rejected_a.ext E6
  replace F_rejections_a := F_rejections_a.ext E6
  replace E_y := E_y.ext E6
  replace F_modCount_y := F_modCount_y.ext E6
  replace F_elementData_y := F_elementData_y.ext E6
  replace F_size_y := F_size_y.ext E6
  replace Z0 : n0 ≤ h6.size := Nat.le_trans Z0 E6.1
  have F_line_b6 : Fld Z h6 b6 "com/example/keep_count/keepcount/api/BatchResult$Rejection" "line" "J" (.long (0 : Int64)) := D6 (Or.inr (hw _ (List.mem_of_getElem? (i := 120) rfl))) (ty := .long) (by decide)
  have F_error_b6 : Fld Z h6 b6 "com/example/keep_count/keepcount/api/BatchResult$Rejection" "error" "Ljava/lang/String;" .null := D6 (Or.inr (hw _ (List.mem_of_getElem? (i := 122) rfl))) (ty := (.object "java/lang/String")) (by decide)
  have E_b6 := A6
  refine own_st T6 (mkF m_ 31 #[.val (.ref a), .val (.long ln), .second, .val (.ref er)] [(.ref b6), (.ref y)]) st6 ?_
  refine own_st T6 (mkF m_ 34 #[.val (.ref a), .val (.long ln), .second, .val (.ref er)] [(.ref er), (.long ln), (.ref b6), (.ref b6), (.ref y)]) (fun t_ k_ => ?_) ?_
  · refine XS.dup X6.here hx rfl (hb hby dprog_11_method_3_code_31) rfl rfl ?_
    show Steps p_.tables e_ below (T6.setTop (mkF m_ 32 #[.val (.ref a), .val (.long ln), .second, .val (.ref er)] [(.ref b6), (.ref b6), (.ref y)])) t_
    refine XS.lloadN X6.here hx rfl (hb hby dprog_11_method_3_code_32) rfl ?_
    show Steps p_.tables e_ below (T6.setTop (mkF m_ 33 #[.val (.ref a), .val (.long ln), .second, .val (.ref er)] [(.long ln), (.ref b6), (.ref b6), (.ref y)])) t_
    refine XS.aloadN X6.here hx rfl (hb hby dprog_11_method_3_code_33) rfl rfl ?_
    show Steps p_.tables e_ below (T6.setTop (mkF m_ 34 #[.val (.ref a), .val (.long ln), .second, .val (.ref er)] [(.ref er), (.long ln), (.ref b6), (.ref b6), (.ref y)])) t_
    exact k_
  refine own_callC X6 hx hZ rfl hown (hw _ (List.mem_of_getElem? (i := 110) rfl)) (hw _ (List.mem_of_getElem? (i := 111) rfl)) (hw _ (List.mem_of_getElem? (i := 109) rfl)) (hw _ (List.mem_of_getElem? (i := 112) rfl)) (by decide) b6 [(.long ln), (.ref er)] [(.ref b6), (.ref y)] (rm17 l Z a0 hw b6 ln er h6 n0 Z0 E_b6 F_line_b6 F_error_b6 g_b6) 2 (by decide) (by decide) e6 (by rw [hml]; rfl) (lenOf own_pd9 rfl) rfl (Nat.le_of_eq rfl) (hb hby dprog_11_method_3_code_34) (by decide) (by decide) ?_
  intro v7 T7 L7 X7 q7
  obtain ⟨rfl, N7q, K7, Eq7, Fq7_line, Fq7_error⟩ := q7
  have N7 := Fr.app N4 N7q
  replace KP := KP.trans K7 (allS (Or.inr sz_b6) all0)
  replace O := O.keep K7 (allS g_b6 all0)
  replace E_a := E_a.keep K7
  replace F_allowed_a := F_allowed_a.keep K7 (ninS ne_a_b6 nin0)
  replace F_denied_a := F_denied_a.keep K7 (ninS ne_a_b6 nin0)
  replace F_rejected_a := F_rejected_a.keep K7 (ninS ne_a_b6 nin0)
  replace F_rejections_a := F_rejections_a.keep K7 (ninS ne_a_b6 nin0)
  replace E_y := E_y.keep K7
  replace F_modCount_y := F_modCount_y.keep K7 (ninS ne_y_b6 nin0)
  replace F_elementData_y := F_elementData_y.keep K7 (ninS ne_y_b6 nin0)
  replace F_size_y := F_size_y.keep K7 (ninS ne_y_b6 nin0)
  -- F_line_b6 is dropped: written by the callee
  -- F_error_b6 is dropped: written by the callee
  replace E_b6 := E_b6.keep K7
  replace Z0 : n0 ≤ T7.heap.size := Nat.le_trans Z0 K7.1
  have F_line_b6 := Fq7_line
  have F_error_b6 := Fq7_error
  show own_Out p_ e_ below s_ _ _ _ T7 (mkF m_ 37 #[.val (.ref a), .val (.long ln), .second, .val (.ref er)] [(.ref b6), (.ref y)])
  refine own_callI X7 hx hZ (xi := (⟨"java/util/List", "add", "(Ljava/lang/Object;)Z"⟩ : MethodName)) (y := (⟨"java/util/ArrayList", "add", "(Ljava/lang/Object;)Z"⟩ : MethodName)) hown (mvT hZ (hw _ (List.mem_of_getElem? (i := 123) rfl))) (mvT hZ (hw _ (List.mem_of_getElem? (i := 124) rfl))) (mvT hZ (hw _ (List.mem_of_getElem? (i := 125) rfl))) (mvT hZ (hw _ (List.mem_of_getElem? (i := 126) rfl))) (mvT hZ (hw _ (List.mem_of_getElem? (i := 127) rfl))) (mvT hZ (hw _ (List.mem_of_getElem? (i := 128) rfl))) (mvT hZ (hw _ (List.mem_of_getElem? (i := 129) rfl))) (mvT hZ (hw _ (List.mem_of_getElem? (i := 103) rfl))) (hw _ (List.mem_of_getElem? (i := 11) rfl)) (hw _ (List.mem_of_getElem? (i := 130) rfl)) (by decide) y [(.ref b6)] [] E_y (rm19 l Z a0 hw y b6 de kd (0 : Int32) T7.heap n0 Z0 O S_D A_de E_y F_modCount_y F_elementData_y F_size_y g_y E_b6) 0 (by decide) (by decide) rfl (by rw [hml]; rfl) (lenOf own_pd10 rfl) rfl (Nat.le_of_eq rfl) (hb hby dprog_11_method_3_code_37) (by decide) (by decide) ?_
  intro v8 T8 L8 X8 q8
  obtain ⟨rfl, N8q, K8⟩ := q8
  have N8 := Fr.app N7 N8q
  replace KP := KP.trans K8 (allS (Or.inl (List.mem_of_getElem? (i := 1) rfl)) all0)
  replace O := O.keep K8 (allS g_y all0)
  replace E_a := E_a.keep K8
  replace F_allowed_a := F_allowed_a.keep K8 (ninS (Ne.symm ne_y_a) nin0)
  replace F_denied_a := F_denied_a.keep K8 (ninS (Ne.symm ne_y_a) nin0)
  replace F_rejected_a := F_rejected_a.keep K8 (ninS (Ne.symm ne_y_a) nin0)
  replace F_rejections_a := F_rejections_a.keep K8 (ninS (Ne.symm ne_y_a) nin0)
  replace E_y := E_y.keep K8
  -- F_modCount_y is dropped: written by the callee
  -- F_elementData_y is dropped: written by the callee
  -- F_size_y is dropped: written by the callee
  replace E_b6 := E_b6.keep K8
  replace F_line_b6 := F_line_b6.keep K8 (ninS (Ne.symm ne_y_b6) nin0)
  replace F_error_b6 := F_error_b6.keep K8 (ninS (Ne.symm ne_y_b6) nin0)
  replace Z0 : n0 ≤ T8.heap.size := Nat.le_trans Z0 K8.1
  show own_Out p_ e_ below s_ _ _ _ T8 (mkF m_ 42 #[.val (.ref a), .val (.long ln), .second, .val (.ref er)] [(.int (1 : Int32))])
  refine own_st T8 (mkF m_ 43 #[.val (.ref a), .val (.long ln), .second, .val (.ref er)] []) (fun t_ k_ => ?_) ?_
  · refine XS.pop X8.here hx rfl (hb hby dprog_11_method_3_code_42) rfl rfl ?_
    show Steps p_.tables e_ below (T8.setTop (mkF m_ 43 #[.val (.ref a), .val (.long ln), .second, .val (.ref er)] [])) t_
    exact k_
  refine own_ret0 X8 hx hlk hret (hb hby dprog_11_method_3_code_43) (by decide) (by decide) ?_
  exact ⟨rfl, N8, KP, F_allowed_a, F_denied_a, F_rejected_a⟩
theorem own_pd11 : parseMethodDescriptor "(Z)V" = some ⟨[.boolean], none⟩ := by decide +kernel
theorem own_pd12 : parseMethodDescriptor "()J" = some ⟨[], some .long⟩ := by decide +kernel
theorem own_pd13 : parseMethodDescriptor "(C)Ljava/lang/String;" = some ⟨[.char], some (.object "java/lang/String")⟩ := by decide +kernel
theorem ef_rm0 (m_ : MethodId) (flags : Int32) (line : Int64) : entryFrame m_ #[(.int flags), (.long line)] maxLocals = mkF m_ 0 #[.val (.int flags), .val (.long line), .second, .unset, .unset, .unset, .unset, .unset, .unset, .unset, .unset, .unset, .unset, .unset, .unset, .unset, .unset, .unset, .unset] [] := by first | (simp [entryFrame, mkF, argsToLocals, Value.category, maxLocals]; done) | rfl
theorem own_pn8 : plainName "com/example/keep_count/keepcount/api/BatchResultCheckedPinLaw" = true := by first | (simp [plainName, overriddenIn]; done) | decide +kernel
set_option maxRecDepth 65536 in
set_option maxHeartbeats 40000000 in
theorem rm0 (l : Launch) (Z : State) (a0 : Array Value) (hw : ∀ d ∈ tables_1, d.before a0 Z = true) (flags : Int32) (line : Int64) (de : Addr) (kd : ClassId) (cs : Int32) (h0 : Heap) (n0 : Nat) (Z0 : n0 ≤ h0.size) (O : Old Z n0 h0) (S_D : Sta Z Z.heap "java/util/ArrayList" "DEFAULTCAPACITY_EMPTY_ELEMENTDATA" "[Ljava/lang/Object;" (.ref de)) (A_de : own_A Z Z.heap de kd (.object "java/lang/Object") 0 (fun x => (([] : List Value).getD x .null))) (S_CS : Sta Z Z.heap "java/lang/String" "COMPACT_STRINGS" "Z" (.int cs)) (hcs : ¬ cs = (0 : Int32)) :
    own_Met l Z x code maxLocals ret room_1 #[(.int flags), (.long line)] h0 (fun v h L => v = some (.int 1) ∧ Fr n0 L) := by
  refine own_body #[.val (.int flags), .val (.long line), .second, .unset, .unset, .unset, .unset, .unset, .unset, .unset, .unset, .unset, .unset, .unset, .unset, .unset, .unset, .unset, .unset] (plainFor_of_name own_pn8) (fun m_ => ef_rm0 m_ flags line) ?_
  intro p_ e_ s_ m_ below meth c_ s₁ X0 hx hby hml hret hlk hZ hown hnm e0
  have N0 := Fr.nil n0
  show own_Out p_ e_ below s_ _ _ _ s₁ (mkF m_ 0 #[.val (.int flags), .val (.long line), .second, .unset, .unset, .unset, .unset, .unset, .unset, .unset, .unset, .unset, .unset, .unset, .unset, .unset, .unset, .unset, .unset] [])
  refine own_st s₁ (mkF m_ 52 #[.val (.int flags), .val (.long line), .second, .val (.int (if (flags &&& (1 : Int32)) = (0 : Int32) then (0 : Int32) else 1)), .val (.int (if (flags &&& (2 : Int32)) = (0 : Int32) then (0 : Int32) else 1)), .val (.int (if (flags &&& (4 : Int32)) = (0 : Int32) then (0 : Int32) else 1)), .val (.int (if (flags &&& (8 : Int32)) = (0 : Int32) then (0 : Int32) else 1)), .unset, .unset, .unset, .unset, .unset, .unset, .unset, .unset, .unset, .unset, .unset, .unset] []) (fun t_ k_ => ?_) ?_
  · refine XS.iloadN X0.here hx rfl (hb hby at_0) rfl ?_
    show Steps p_.tables e_ below (s₁.setTop (mkF m_ 1 #[.val (.int flags), .val (.long line), .second, .unset, .unset, .unset, .unset, .unset, .unset, .unset, .unset, .unset, .unset, .unset, .unset, .unset, .unset, .unset, .unset] [(.int flags)])) t_
    refine XS.iconst X0.here hx rfl (hb hby at_1) ?_
    show Steps p_.tables e_ below (s₁.setTop (mkF m_ 2 #[.val (.int flags), .val (.long line), .second, .unset, .unset, .unset, .unset, .unset, .unset, .unset, .unset, .unset, .unset, .unset, .unset, .unset, .unset, .unset, .unset] [(.int (1 : Int32)), (.int flags)])) t_
    refine XS.iand X0.here hx rfl (hb hby at_2) rfl ?_
    show Steps p_.tables e_ below (s₁.setTop (mkF m_ 3 #[.val (.int flags), .val (.long line), .second, .unset, .unset, .unset, .unset, .unset, .unset, .unset, .unset, .unset, .unset, .unset, .unset, .unset, .unset, .unset, .unset] [(.int (flags &&& (1 : Int32)))])) t_
    have jn3 : ∀ t_, Steps p_.tables e_ below (s₁.setTop (mkF m_ 11 #[.val (.int flags), .val (.long line), .second, .unset, .unset, .unset, .unset, .unset, .unset, .unset, .unset, .unset, .unset, .unset, .unset, .unset, .unset, .unset, .unset] [(.int (if (flags &&& (1 : Int32)) = (0 : Int32) then (0 : Int32) else 1))])) t_ → Steps p_.tables e_ below (s₁.setTop (mkF m_ 3 #[.val (.int flags), .val (.long line), .second, .unset, .unset, .unset, .unset, .unset, .unset, .unset, .unset, .unset, .unset, .unset, .unset, .unset, .unset, .unset, .unset] [(.int (flags &&& (1 : Int32)))])) t_ := by
      intro t_ k_
      by_cases hc3 : (flags &&& (1 : Int32)) = (0 : Int32)
      · refine XS.ifYes X0.here hx rfl (pc0 := 3) (pc' := 10) rfl (hb hby at_3) rfl ((if0 _ _).trans (teq hc3).1) (by decide) (by decide) ?_
        show Steps p_.tables e_ below (s₁.setTop (mkF m_ 10 #[.val (.int flags), .val (.long line), .second, .unset, .unset, .unset, .unset, .unset, .unset, .unset, .unset, .unset, .unset, .unset, .unset, .unset, .unset, .unset, .unset] [])) t_
        refine XS.iconst X0.here hx rfl (hb hby at_10) ?_
        show Steps p_.tables e_ below (s₁.setTop (mkF m_ 11 #[.val (.int flags), .val (.long line), .second, .unset, .unset, .unset, .unset, .unset, .unset, .unset, .unset, .unset, .unset, .unset, .unset, .unset, .unset, .unset, .unset] [(.int (0 : Int32))])) t_
        simp only [if_pos hc3] at k_ ⊢
        exact k_
      · refine XS.ifNo X0.here hx rfl (hb hby at_3) rfl ((if0 _ _).trans (feq hc3).1) ?_
        show Steps p_.tables e_ below (s₁.setTop (mkF m_ 6 #[.val (.int flags), .val (.long line), .second, .unset, .unset, .unset, .unset, .unset, .unset, .unset, .unset, .unset, .unset, .unset, .unset, .unset, .unset, .unset, .unset] [])) t_
        refine XS.iconst X0.here hx rfl (hb hby at_6) ?_
        show Steps p_.tables e_ below (s₁.setTop (mkF m_ 7 #[.val (.int flags), .val (.long line), .second, .unset, .unset, .unset, .unset, .unset, .unset, .unset, .unset, .unset, .unset, .unset, .unset, .unset, .unset, .unset, .unset] [(.int (1 : Int32))])) t_
        refine XS.goto X0.here hx rfl (pc0 := 7) (pc' := 11) rfl (hb hby at_7) (by decide) (by decide) ?_
        show Steps p_.tables e_ below (s₁.setTop (mkF m_ 11 #[.val (.int flags), .val (.long line), .second, .unset, .unset, .unset, .unset, .unset, .unset, .unset, .unset, .unset, .unset, .unset, .unset, .unset, .unset, .unset, .unset] [(.int (1 : Int32))])) t_
        simp only [if_neg hc3] at k_ ⊢
        exact k_
    refine jn3 _ ?_
    show Steps p_.tables e_ below (s₁.setTop (mkF m_ 11 #[.val (.int flags), .val (.long line), .second, .unset, .unset, .unset, .unset, .unset, .unset, .unset, .unset, .unset, .unset, .unset, .unset, .unset, .unset, .unset, .unset] [(.int (if (flags &&& (1 : Int32)) = (0 : Int32) then (0 : Int32) else 1))])) t_
    refine XS.istoreN X0.here hx rfl (hb hby at_11) rfl (l' := #[.val (.int flags), .val (.long line), .second, .val (.int (if (flags &&& (1 : Int32)) = (0 : Int32) then (0 : Int32) else 1)), .unset, .unset, .unset, .unset, .unset, .unset, .unset, .unset, .unset, .unset, .unset, .unset, .unset, .unset, .unset]) rfl ?_
    show Steps p_.tables e_ below (s₁.setTop (mkF m_ 12 #[.val (.int flags), .val (.long line), .second, .val (.int (if (flags &&& (1 : Int32)) = (0 : Int32) then (0 : Int32) else 1)), .unset, .unset, .unset, .unset, .unset, .unset, .unset, .unset, .unset, .unset, .unset, .unset, .unset, .unset, .unset] [])) t_
    refine XS.iloadN X0.here hx rfl (hb hby at_12) rfl ?_
    show Steps p_.tables e_ below (s₁.setTop (mkF m_ 13 #[.val (.int flags), .val (.long line), .second, .val (.int (if (flags &&& (1 : Int32)) = (0 : Int32) then (0 : Int32) else 1)), .unset, .unset, .unset, .unset, .unset, .unset, .unset, .unset, .unset, .unset, .unset, .unset, .unset, .unset, .unset] [(.int flags)])) t_
    refine XS.iconst X0.here hx rfl (hb hby at_13) ?_
    show Steps p_.tables e_ below (s₁.setTop (mkF m_ 14 #[.val (.int flags), .val (.long line), .second, .val (.int (if (flags &&& (1 : Int32)) = (0 : Int32) then (0 : Int32) else 1)), .unset, .unset, .unset, .unset, .unset, .unset, .unset, .unset, .unset, .unset, .unset, .unset, .unset, .unset, .unset] [(.int (2 : Int32)), (.int flags)])) t_
    refine XS.iand X0.here hx rfl (hb hby at_14) rfl ?_
    show Steps p_.tables e_ below (s₁.setTop (mkF m_ 15 #[.val (.int flags), .val (.long line), .second, .val (.int (if (flags &&& (1 : Int32)) = (0 : Int32) then (0 : Int32) else 1)), .unset, .unset, .unset, .unset, .unset, .unset, .unset, .unset, .unset, .unset, .unset, .unset, .unset, .unset, .unset] [(.int (flags &&& (2 : Int32)))])) t_
    have jn15 : ∀ t_, Steps p_.tables e_ below (s₁.setTop (mkF m_ 23 #[.val (.int flags), .val (.long line), .second, .val (.int (if (flags &&& (1 : Int32)) = (0 : Int32) then (0 : Int32) else 1)), .unset, .unset, .unset, .unset, .unset, .unset, .unset, .unset, .unset, .unset, .unset, .unset, .unset, .unset, .unset] [(.int (if (flags &&& (2 : Int32)) = (0 : Int32) then (0 : Int32) else 1))])) t_ → Steps p_.tables e_ below (s₁.setTop (mkF m_ 15 #[.val (.int flags), .val (.long line), .second, .val (.int (if (flags &&& (1 : Int32)) = (0 : Int32) then (0 : Int32) else 1)), .unset, .unset, .unset, .unset, .unset, .unset, .unset, .unset, .unset, .unset, .unset, .unset, .unset, .unset, .unset] [(.int (flags &&& (2 : Int32)))])) t_ := by
      intro t_ k_
      by_cases hc15 : (flags &&& (2 : Int32)) = (0 : Int32)
      · refine XS.ifYes X0.here hx rfl (pc0 := 15) (pc' := 22) rfl (hb hby at_15) rfl ((if0 _ _).trans (teq hc15).1) (by decide) (by decide) ?_
        show Steps p_.tables e_ below (s₁.setTop (mkF m_ 22 #[.val (.int flags), .val (.long line), .second, .val (.int (if (flags &&& (1 : Int32)) = (0 : Int32) then (0 : Int32) else 1)), .unset, .unset, .unset, .unset, .unset, .unset, .unset, .unset, .unset, .unset, .unset, .unset, .unset, .unset, .unset] [])) t_
        refine XS.iconst X0.here hx rfl (hb hby at_22) ?_
        show Steps p_.tables e_ below (s₁.setTop (mkF m_ 23 #[.val (.int flags), .val (.long line), .second, .val (.int (if (flags &&& (1 : Int32)) = (0 : Int32) then (0 : Int32) else 1)), .unset, .unset, .unset, .unset, .unset, .unset, .unset, .unset, .unset, .unset, .unset, .unset, .unset, .unset, .unset] [(.int (0 : Int32))])) t_
        simp only [if_pos hc15] at k_ ⊢
        exact k_
      · refine XS.ifNo X0.here hx rfl (hb hby at_15) rfl ((if0 _ _).trans (feq hc15).1) ?_
        show Steps p_.tables e_ below (s₁.setTop (mkF m_ 18 #[.val (.int flags), .val (.long line), .second, .val (.int (if (flags &&& (1 : Int32)) = (0 : Int32) then (0 : Int32) else 1)), .unset, .unset, .unset, .unset, .unset, .unset, .unset, .unset, .unset, .unset, .unset, .unset, .unset, .unset, .unset] [])) t_
        refine XS.iconst X0.here hx rfl (hb hby at_18) ?_
        show Steps p_.tables e_ below (s₁.setTop (mkF m_ 19 #[.val (.int flags), .val (.long line), .second, .val (.int (if (flags &&& (1 : Int32)) = (0 : Int32) then (0 : Int32) else 1)), .unset, .unset, .unset, .unset, .unset, .unset, .unset, .unset, .unset, .unset, .unset, .unset, .unset, .unset, .unset] [(.int (1 : Int32))])) t_
        refine XS.goto X0.here hx rfl (pc0 := 19) (pc' := 23) rfl (hb hby at_19) (by decide) (by decide) ?_
        show Steps p_.tables e_ below (s₁.setTop (mkF m_ 23 #[.val (.int flags), .val (.long line), .second, .val (.int (if (flags &&& (1 : Int32)) = (0 : Int32) then (0 : Int32) else 1)), .unset, .unset, .unset, .unset, .unset, .unset, .unset, .unset, .unset, .unset, .unset, .unset, .unset, .unset, .unset] [(.int (1 : Int32))])) t_
        simp only [if_neg hc15] at k_ ⊢
        exact k_
    refine jn15 _ ?_
    show Steps p_.tables e_ below (s₁.setTop (mkF m_ 23 #[.val (.int flags), .val (.long line), .second, .val (.int (if (flags &&& (1 : Int32)) = (0 : Int32) then (0 : Int32) else 1)), .unset, .unset, .unset, .unset, .unset, .unset, .unset, .unset, .unset, .unset, .unset, .unset, .unset, .unset, .unset] [(.int (if (flags &&& (2 : Int32)) = (0 : Int32) then (0 : Int32) else 1))])) t_
    refine XS.istore X0.here hx rfl (hb hby at_23) rfl (l' := #[.val (.int flags), .val (.long line), .second, .val (.int (if (flags &&& (1 : Int32)) = (0 : Int32) then (0 : Int32) else 1)), .val (.int (if (flags &&& (2 : Int32)) = (0 : Int32) then (0 : Int32) else 1)), .unset, .unset, .unset, .unset, .unset, .unset, .unset, .unset, .unset, .unset, .unset, .unset, .unset, .unset]) rfl ?_
    show Steps p_.tables e_ below (s₁.setTop (mkF m_ 25 #[.val (.int flags), .val (.long line), .second, .val (.int (if (flags &&& (1 : Int32)) = (0 : Int32) then (0 : Int32) else 1)), .val (.int (if (flags &&& (2 : Int32)) = (0 : Int32) then (0 : Int32) else 1)), .unset, .unset, .unset, .unset, .unset, .unset, .unset, .unset, .unset, .unset, .unset, .unset, .unset, .unset] [])) t_
    refine XS.iloadN X0.here hx rfl (hb hby at_25) rfl ?_
    show Steps p_.tables e_ below (s₁.setTop (mkF m_ 26 #[.val (.int flags), .val (.long line), .second, .val (.int (if (flags &&& (1 : Int32)) = (0 : Int32) then (0 : Int32) else 1)), .val (.int (if (flags &&& (2 : Int32)) = (0 : Int32) then (0 : Int32) else 1)), .unset, .unset, .unset, .unset, .unset, .unset, .unset, .unset, .unset, .unset, .unset, .unset, .unset, .unset] [(.int flags)])) t_
    refine XS.iconst X0.here hx rfl (hb hby at_26) ?_
    show Steps p_.tables e_ below (s₁.setTop (mkF m_ 27 #[.val (.int flags), .val (.long line), .second, .val (.int (if (flags &&& (1 : Int32)) = (0 : Int32) then (0 : Int32) else 1)), .val (.int (if (flags &&& (2 : Int32)) = (0 : Int32) then (0 : Int32) else 1)), .unset, .unset, .unset, .unset, .unset, .unset, .unset, .unset, .unset, .unset, .unset, .unset, .unset, .unset] [(.int (4 : Int32)), (.int flags)])) t_
    refine XS.iand X0.here hx rfl (hb hby at_27) rfl ?_
    show Steps p_.tables e_ below (s₁.setTop (mkF m_ 28 #[.val (.int flags), .val (.long line), .second, .val (.int (if (flags &&& (1 : Int32)) = (0 : Int32) then (0 : Int32) else 1)), .val (.int (if (flags &&& (2 : Int32)) = (0 : Int32) then (0 : Int32) else 1)), .unset, .unset, .unset, .unset, .unset, .unset, .unset, .unset, .unset, .unset, .unset, .unset, .unset, .unset] [(.int (flags &&& (4 : Int32)))])) t_
    have jn28 : ∀ t_, Steps p_.tables e_ below (s₁.setTop (mkF m_ 36 #[.val (.int flags), .val (.long line), .second, .val (.int (if (flags &&& (1 : Int32)) = (0 : Int32) then (0 : Int32) else 1)), .val (.int (if (flags &&& (2 : Int32)) = (0 : Int32) then (0 : Int32) else 1)), .unset, .unset, .unset, .unset, .unset, .unset, .unset, .unset, .unset, .unset, .unset, .unset, .unset, .unset] [(.int (if (flags &&& (4 : Int32)) = (0 : Int32) then (0 : Int32) else 1))])) t_ → Steps p_.tables e_ below (s₁.setTop (mkF m_ 28 #[.val (.int flags), .val (.long line), .second, .val (.int (if (flags &&& (1 : Int32)) = (0 : Int32) then (0 : Int32) else 1)), .val (.int (if (flags &&& (2 : Int32)) = (0 : Int32) then (0 : Int32) else 1)), .unset, .unset, .unset, .unset, .unset, .unset, .unset, .unset, .unset, .unset, .unset, .unset, .unset, .unset] [(.int (flags &&& (4 : Int32)))])) t_ := by
      intro t_ k_
      by_cases hc28 : (flags &&& (4 : Int32)) = (0 : Int32)
      · refine XS.ifYes X0.here hx rfl (pc0 := 28) (pc' := 35) rfl (hb hby at_28) rfl ((if0 _ _).trans (teq hc28).1) (by decide) (by decide) ?_
        show Steps p_.tables e_ below (s₁.setTop (mkF m_ 35 #[.val (.int flags), .val (.long line), .second, .val (.int (if (flags &&& (1 : Int32)) = (0 : Int32) then (0 : Int32) else 1)), .val (.int (if (flags &&& (2 : Int32)) = (0 : Int32) then (0 : Int32) else 1)), .unset, .unset, .unset, .unset, .unset, .unset, .unset, .unset, .unset, .unset, .unset, .unset, .unset, .unset] [])) t_
        refine XS.iconst X0.here hx rfl (hb hby at_35) ?_
        show Steps p_.tables e_ below (s₁.setTop (mkF m_ 36 #[.val (.int flags), .val (.long line), .second, .val (.int (if (flags &&& (1 : Int32)) = (0 : Int32) then (0 : Int32) else 1)), .val (.int (if (flags &&& (2 : Int32)) = (0 : Int32) then (0 : Int32) else 1)), .unset, .unset, .unset, .unset, .unset, .unset, .unset, .unset, .unset, .unset, .unset, .unset, .unset, .unset] [(.int (0 : Int32))])) t_
        simp only [if_pos hc28] at k_ ⊢
        exact k_
      · refine XS.ifNo X0.here hx rfl (hb hby at_28) rfl ((if0 _ _).trans (feq hc28).1) ?_
        show Steps p_.tables e_ below (s₁.setTop (mkF m_ 31 #[.val (.int flags), .val (.long line), .second, .val (.int (if (flags &&& (1 : Int32)) = (0 : Int32) then (0 : Int32) else 1)), .val (.int (if (flags &&& (2 : Int32)) = (0 : Int32) then (0 : Int32) else 1)), .unset, .unset, .unset, .unset, .unset, .unset, .unset, .unset, .unset, .unset, .unset, .unset, .unset, .unset] [])) t_
        refine XS.iconst X0.here hx rfl (hb hby at_31) ?_
        show Steps p_.tables e_ below (s₁.setTop (mkF m_ 32 #[.val (.int flags), .val (.long line), .second, .val (.int (if (flags &&& (1 : Int32)) = (0 : Int32) then (0 : Int32) else 1)), .val (.int (if (flags &&& (2 : Int32)) = (0 : Int32) then (0 : Int32) else 1)), .unset, .unset, .unset, .unset, .unset, .unset, .unset, .unset, .unset, .unset, .unset, .unset, .unset, .unset] [(.int (1 : Int32))])) t_
        refine XS.goto X0.here hx rfl (pc0 := 32) (pc' := 36) rfl (hb hby at_32) (by decide) (by decide) ?_
        show Steps p_.tables e_ below (s₁.setTop (mkF m_ 36 #[.val (.int flags), .val (.long line), .second, .val (.int (if (flags &&& (1 : Int32)) = (0 : Int32) then (0 : Int32) else 1)), .val (.int (if (flags &&& (2 : Int32)) = (0 : Int32) then (0 : Int32) else 1)), .unset, .unset, .unset, .unset, .unset, .unset, .unset, .unset, .unset, .unset, .unset, .unset, .unset, .unset] [(.int (1 : Int32))])) t_
        simp only [if_neg hc28] at k_ ⊢
        exact k_
    refine jn28 _ ?_
    show Steps p_.tables e_ below (s₁.setTop (mkF m_ 36 #[.val (.int flags), .val (.long line), .second, .val (.int (if (flags &&& (1 : Int32)) = (0 : Int32) then (0 : Int32) else 1)), .val (.int (if (flags &&& (2 : Int32)) = (0 : Int32) then (0 : Int32) else 1)), .unset, .unset, .unset, .unset, .unset, .unset, .unset, .unset, .unset, .unset, .unset, .unset, .unset, .unset] [(.int (if (flags &&& (4 : Int32)) = (0 : Int32) then (0 : Int32) else 1))])) t_
    refine XS.istore X0.here hx rfl (hb hby at_36) rfl (l' := #[.val (.int flags), .val (.long line), .second, .val (.int (if (flags &&& (1 : Int32)) = (0 : Int32) then (0 : Int32) else 1)), .val (.int (if (flags &&& (2 : Int32)) = (0 : Int32) then (0 : Int32) else 1)), .val (.int (if (flags &&& (4 : Int32)) = (0 : Int32) then (0 : Int32) else 1)), .unset, .unset, .unset, .unset, .unset, .unset, .unset, .unset, .unset, .unset, .unset, .unset, .unset]) rfl ?_
    show Steps p_.tables e_ below (s₁.setTop (mkF m_ 38 #[.val (.int flags), .val (.long line), .second, .val (.int (if (flags &&& (1 : Int32)) = (0 : Int32) then (0 : Int32) else 1)), .val (.int (if (flags &&& (2 : Int32)) = (0 : Int32) then (0 : Int32) else 1)), .val (.int (if (flags &&& (4 : Int32)) = (0 : Int32) then (0 : Int32) else 1)), .unset, .unset, .unset, .unset, .unset, .unset, .unset, .unset, .unset, .unset, .unset, .unset, .unset] [])) t_
    refine XS.iloadN X0.here hx rfl (hb hby at_38) rfl ?_
    show Steps p_.tables e_ below (s₁.setTop (mkF m_ 39 #[.val (.int flags), .val (.long line), .second, .val (.int (if (flags &&& (1 : Int32)) = (0 : Int32) then (0 : Int32) else 1)), .val (.int (if (flags &&& (2 : Int32)) = (0 : Int32) then (0 : Int32) else 1)), .val (.int (if (flags &&& (4 : Int32)) = (0 : Int32) then (0 : Int32) else 1)), .unset, .unset, .unset, .unset, .unset, .unset, .unset, .unset, .unset, .unset, .unset, .unset, .unset] [(.int flags)])) t_
    refine XS.bipush X0.here hx rfl (hb hby at_39) ?_
    show Steps p_.tables e_ below (s₁.setTop (mkF m_ 41 #[.val (.int flags), .val (.long line), .second, .val (.int (if (flags &&& (1 : Int32)) = (0 : Int32) then (0 : Int32) else 1)), .val (.int (if (flags &&& (2 : Int32)) = (0 : Int32) then (0 : Int32) else 1)), .val (.int (if (flags &&& (4 : Int32)) = (0 : Int32) then (0 : Int32) else 1)), .unset, .unset, .unset, .unset, .unset, .unset, .unset, .unset, .unset, .unset, .unset, .unset, .unset] [(.int (8 : Int32)), (.int flags)])) t_
    refine XS.iand X0.here hx rfl (hb hby at_41) rfl ?_
    show Steps p_.tables e_ below (s₁.setTop (mkF m_ 42 #[.val (.int flags), .val (.long line), .second, .val (.int (if (flags &&& (1 : Int32)) = (0 : Int32) then (0 : Int32) else 1)), .val (.int (if (flags &&& (2 : Int32)) = (0 : Int32) then (0 : Int32) else 1)), .val (.int (if (flags &&& (4 : Int32)) = (0 : Int32) then (0 : Int32) else 1)), .unset, .unset, .unset, .unset, .unset, .unset, .unset, .unset, .unset, .unset, .unset, .unset, .unset] [(.int (flags &&& (8 : Int32)))])) t_
    have jn42 : ∀ t_, Steps p_.tables e_ below (s₁.setTop (mkF m_ 50 #[.val (.int flags), .val (.long line), .second, .val (.int (if (flags &&& (1 : Int32)) = (0 : Int32) then (0 : Int32) else 1)), .val (.int (if (flags &&& (2 : Int32)) = (0 : Int32) then (0 : Int32) else 1)), .val (.int (if (flags &&& (4 : Int32)) = (0 : Int32) then (0 : Int32) else 1)), .unset, .unset, .unset, .unset, .unset, .unset, .unset, .unset, .unset, .unset, .unset, .unset, .unset] [(.int (if (flags &&& (8 : Int32)) = (0 : Int32) then (0 : Int32) else 1))])) t_ → Steps p_.tables e_ below (s₁.setTop (mkF m_ 42 #[.val (.int flags), .val (.long line), .second, .val (.int (if (flags &&& (1 : Int32)) = (0 : Int32) then (0 : Int32) else 1)), .val (.int (if (flags &&& (2 : Int32)) = (0 : Int32) then (0 : Int32) else 1)), .val (.int (if (flags &&& (4 : Int32)) = (0 : Int32) then (0 : Int32) else 1)), .unset, .unset, .unset, .unset, .unset, .unset, .unset, .unset, .unset, .unset, .unset, .unset, .unset] [(.int (flags &&& (8 : Int32)))])) t_ := by
      intro t_ k_
      by_cases hc42 : (flags &&& (8 : Int32)) = (0 : Int32)
      · refine XS.ifYes X0.here hx rfl (pc0 := 42) (pc' := 49) rfl (hb hby at_42) rfl ((if0 _ _).trans (teq hc42).1) (by decide) (by decide) ?_
        show Steps p_.tables e_ below (s₁.setTop (mkF m_ 49 #[.val (.int flags), .val (.long line), .second, .val (.int (if (flags &&& (1 : Int32)) = (0 : Int32) then (0 : Int32) else 1)), .val (.int (if (flags &&& (2 : Int32)) = (0 : Int32) then (0 : Int32) else 1)), .val (.int (if (flags &&& (4 : Int32)) = (0 : Int32) then (0 : Int32) else 1)), .unset, .unset, .unset, .unset, .unset, .unset, .unset, .unset, .unset, .unset, .unset, .unset, .unset] [])) t_
        refine XS.iconst X0.here hx rfl (hb hby at_49) ?_
        show Steps p_.tables e_ below (s₁.setTop (mkF m_ 50 #[.val (.int flags), .val (.long line), .second, .val (.int (if (flags &&& (1 : Int32)) = (0 : Int32) then (0 : Int32) else 1)), .val (.int (if (flags &&& (2 : Int32)) = (0 : Int32) then (0 : Int32) else 1)), .val (.int (if (flags &&& (4 : Int32)) = (0 : Int32) then (0 : Int32) else 1)), .unset, .unset, .unset, .unset, .unset, .unset, .unset, .unset, .unset, .unset, .unset, .unset, .unset] [(.int (0 : Int32))])) t_
        simp only [if_pos hc42] at k_ ⊢
        exact k_
      · refine XS.ifNo X0.here hx rfl (hb hby at_42) rfl ((if0 _ _).trans (feq hc42).1) ?_
        show Steps p_.tables e_ below (s₁.setTop (mkF m_ 45 #[.val (.int flags), .val (.long line), .second, .val (.int (if (flags &&& (1 : Int32)) = (0 : Int32) then (0 : Int32) else 1)), .val (.int (if (flags &&& (2 : Int32)) = (0 : Int32) then (0 : Int32) else 1)), .val (.int (if (flags &&& (4 : Int32)) = (0 : Int32) then (0 : Int32) else 1)), .unset, .unset, .unset, .unset, .unset, .unset, .unset, .unset, .unset, .unset, .unset, .unset, .unset] [])) t_
        refine XS.iconst X0.here hx rfl (hb hby at_45) ?_
        show Steps p_.tables e_ below (s₁.setTop (mkF m_ 46 #[.val (.int flags), .val (.long line), .second, .val (.int (if (flags &&& (1 : Int32)) = (0 : Int32) then (0 : Int32) else 1)), .val (.int (if (flags &&& (2 : Int32)) = (0 : Int32) then (0 : Int32) else 1)), .val (.int (if (flags &&& (4 : Int32)) = (0 : Int32) then (0 : Int32) else 1)), .unset, .unset, .unset, .unset, .unset, .unset, .unset, .unset, .unset, .unset, .unset, .unset, .unset] [(.int (1 : Int32))])) t_
        refine XS.goto X0.here hx rfl (pc0 := 46) (pc' := 50) rfl (hb hby at_46) (by decide) (by decide) ?_
        show Steps p_.tables e_ below (s₁.setTop (mkF m_ 50 #[.val (.int flags), .val (.long line), .second, .val (.int (if (flags &&& (1 : Int32)) = (0 : Int32) then (0 : Int32) else 1)), .val (.int (if (flags &&& (2 : Int32)) = (0 : Int32) then (0 : Int32) else 1)), .val (.int (if (flags &&& (4 : Int32)) = (0 : Int32) then (0 : Int32) else 1)), .unset, .unset, .unset, .unset, .unset, .unset, .unset, .unset, .unset, .unset, .unset, .unset, .unset] [(.int (1 : Int32))])) t_
        simp only [if_neg hc42] at k_ ⊢
        exact k_
    refine jn42 _ ?_
    show Steps p_.tables e_ below (s₁.setTop (mkF m_ 50 #[.val (.int flags), .val (.long line), .second, .val (.int (if (flags &&& (1 : Int32)) = (0 : Int32) then (0 : Int32) else 1)), .val (.int (if (flags &&& (2 : Int32)) = (0 : Int32) then (0 : Int32) else 1)), .val (.int (if (flags &&& (4 : Int32)) = (0 : Int32) then (0 : Int32) else 1)), .unset, .unset, .unset, .unset, .unset, .unset, .unset, .unset, .unset, .unset, .unset, .unset, .unset] [(.int (if (flags &&& (8 : Int32)) = (0 : Int32) then (0 : Int32) else 1))])) t_
    refine XS.istore X0.here hx rfl (hb hby at_50) rfl (l' := #[.val (.int flags), .val (.long line), .second, .val (.int (if (flags &&& (1 : Int32)) = (0 : Int32) then (0 : Int32) else 1)), .val (.int (if (flags &&& (2 : Int32)) = (0 : Int32) then (0 : Int32) else 1)), .val (.int (if (flags &&& (4 : Int32)) = (0 : Int32) then (0 : Int32) else 1)), .val (.int (if (flags &&& (8 : Int32)) = (0 : Int32) then (0 : Int32) else 1)), .unset, .unset, .unset, .unset, .unset, .unset, .unset, .unset, .unset, .unset, .unset, .unset]) rfl ?_
    show Steps p_.tables e_ below (s₁.setTop (mkF m_ 52 #[.val (.int flags), .val (.long line), .second, .val (.int (if (flags &&& (1 : Int32)) = (0 : Int32) then (0 : Int32) else 1)), .val (.int (if (flags &&& (2 : Int32)) = (0 : Int32) then (0 : Int32) else 1)), .val (.int (if (flags &&& (4 : Int32)) = (0 : Int32) then (0 : Int32) else 1)), .val (.int (if (flags &&& (8 : Int32)) = (0 : Int32) then (0 : Int32) else 1)), .unset, .unset, .unset, .unset, .unset, .unset, .unset, .unset, .unset, .unset, .unset, .unset] [])) t_
    exact k_
  obtain ⟨T1, h1, X1, e1, E1, A1, D1, -, st1⟩ := newO X0 hx hZ hown (hw _ (List.mem_of_getElem? (i := 0) rfl)) (hw _ (List.mem_of_getElem? (i := 1) rfl)) (hw _ (List.mem_of_getElem? (i := 2) rfl)) e0 (g := (mkF m_ 52 #[.val (.int flags), .val (.long line), .second, .val (.int (if (flags &&& (1 : Int32)) = (0 : Int32) then (0 : Int32) else 1)), .val (.int (if (flags &&& (2 : Int32)) = (0 : Int32) then (0 : Int32) else 1)), .val (.int (if (flags &&& (4 : Int32)) = (0 : Int32) then (0 : Int32) else 1)), .val (.int (if (flags &&& (8 : Int32)) = (0 : Int32) then (0 : Int32) else 1)), .unset, .unset, .unset, .unset, .unset, .unset, .unset, .unset, .unset, .unset, .unset, .unset] [])) rfl (hb hby at_52) (by decide) (by decide)
  obtain ⟨b1, g1⟩ : ∃ z, z = h0.size := ⟨_, rfl⟩
  rw [← g1] at A1 D1 st1
  have g_b1 : n0 ≤ b1 := g1 ▸ Z0
  replace O := O.ext E1
  replace Z0 : n0 ≤ h1.size := Nat.le_trans Z0 E1.1
  have F_rejections_b1 : Fld Z h1 b1 "com/example/keep_count/keepcount/api/BatchResult" "rejections" "Ljava/util/List;" .null := D1 (Or.inr (hw _ (List.mem_of_getElem? (i := 34) rfl))) (ty := (.object "java/util/List")) (by decide)
  have F_denied_b1 : Fld Z h1 b1 "com/example/keep_count/keepcount/api/BatchResult" "denied" "J" (.long (0 : Int64)) := D1 (Or.inl (hw _ (List.mem_of_getElem? (i := 41) rfl))) (ty := .long) (by decide)
  have F_allowed_b1 : Fld Z h1 b1 "com/example/keep_count/keepcount/api/BatchResult" "allowed" "J" (.long (0 : Int64)) := D1 (Or.inl (hw _ (List.mem_of_getElem? (i := 48) rfl))) (ty := .long) (by decide)
  have F_rejected_b1 : Fld Z h1 b1 "com/example/keep_count/keepcount/api/BatchResult" "rejected" "J" (.long (0 : Int64)) := D1 (Or.inl (hw _ (List.mem_of_getElem? (i := 61) rfl))) (ty := .long) (by decide)
  have E_b1 := A1
  refine own_st T1 (mkF m_ 55 #[.val (.int flags), .val (.long line), .second, .val (.int (if (flags &&& (1 : Int32)) = (0 : Int32) then (0 : Int32) else 1)), .val (.int (if (flags &&& (2 : Int32)) = (0 : Int32) then (0 : Int32) else 1)), .val (.int (if (flags &&& (4 : Int32)) = (0 : Int32) then (0 : Int32) else 1)), .val (.int (if (flags &&& (8 : Int32)) = (0 : Int32) then (0 : Int32) else 1)), .unset, .unset, .unset, .unset, .unset, .unset, .unset, .unset, .unset, .unset, .unset, .unset] [(.ref b1)]) st1 ?_
  refine own_st T1 (mkF m_ 56 #[.val (.int flags), .val (.long line), .second, .val (.int (if (flags &&& (1 : Int32)) = (0 : Int32) then (0 : Int32) else 1)), .val (.int (if (flags &&& (2 : Int32)) = (0 : Int32) then (0 : Int32) else 1)), .val (.int (if (flags &&& (4 : Int32)) = (0 : Int32) then (0 : Int32) else 1)), .val (.int (if (flags &&& (8 : Int32)) = (0 : Int32) then (0 : Int32) else 1)), .unset, .unset, .unset, .unset, .unset, .unset, .unset, .unset, .unset, .unset, .unset, .unset] [(.ref b1), (.ref b1)]) (fun t_ k_ => ?_) ?_
  · refine XS.dup X1.here hx rfl (hb hby at_55) rfl rfl ?_
    show Steps p_.tables e_ below (T1.setTop (mkF m_ 56 #[.val (.int flags), .val (.long line), .second, .val (.int (if (flags &&& (1 : Int32)) = (0 : Int32) then (0 : Int32) else 1)), .val (.int (if (flags &&& (2 : Int32)) = (0 : Int32) then (0 : Int32) else 1)), .val (.int (if (flags &&& (4 : Int32)) = (0 : Int32) then (0 : Int32) else 1)), .val (.int (if (flags &&& (8 : Int32)) = (0 : Int32) then (0 : Int32) else 1)), .unset, .unset, .unset, .unset, .unset, .unset, .unset, .unset, .unset, .unset, .unset, .unset] [(.ref b1), (.ref b1)])) t_
    exact k_
  refine own_callC X1 hx hZ rfl hown (hw _ (List.mem_of_getElem? (i := 3) rfl)) (hw _ (List.mem_of_getElem? (i := 4) rfl)) (hw _ (List.mem_of_getElem? (i := 2) rfl)) (hw _ (List.mem_of_getElem? (i := 5) rfl)) (by decide) b1 [] [(.ref b1)] (rm1 l Z a0 hw b1 de h1 n0 Z0 O S_D E_b1 F_allowed_b1 F_denied_b1 F_rejected_b1 F_rejections_b1 g_b1) 1 (by decide) (by decide) e1 (by rw [hml]; rfl) (lenOf own_pd0 rfl) rfl (Nat.le_of_eq rfl) (hb hby at_56) (by decide) (by decide) ?_
  intro v2 T2 L2 X2 q2
  obtain ⟨y2, rfl, N2q, K2, g_y2, ne_y2_b1, Eq2, Fqa, Fqd, Fqr, Fqj, E_y2, F_modCount_y2, F_elementData_y2, F_size_y2⟩ := q2
  have N2 := Fr.app N0 N2q
  replace O := O.keep K2 (allS g_b1 all0)
  -- F_rejections_b1 is dropped: written by the callee
  -- F_denied_b1 is dropped: written by the callee
  -- F_allowed_b1 is dropped: written by the callee
  -- F_rejected_b1 is dropped: written by the callee
  replace E_b1 := E_b1.keep K2
  replace Z0 : n0 ≤ T2.heap.size := Nat.le_trans Z0 K2.1
  have F_allowed_b1 := Fqa
  have F_denied_b1 := Fqd
  have F_rejected_b1 := Fqr
  have F_rejections_b1 := Fqj
  show own_Out p_ e_ below s_ _ _ _ T2 (mkF m_ 59 #[.val (.int flags), .val (.long line), .second, .val (.int (if (flags &&& (1 : Int32)) = (0 : Int32) then (0 : Int32) else 1)), .val (.int (if (flags &&& (2 : Int32)) = (0 : Int32) then (0 : Int32) else 1)), .val (.int (if (flags &&& (4 : Int32)) = (0 : Int32) then (0 : Int32) else 1)), .val (.int (if (flags &&& (8 : Int32)) = (0 : Int32) then (0 : Int32) else 1)), .unset, .unset, .unset, .unset, .unset, .unset, .unset, .unset, .unset, .unset, .unset, .unset] [(.ref b1)])
  refine own_st T2 (mkF m_ 66 #[.val (.int flags), .val (.long line), .second, .val (.int (if (flags &&& (1 : Int32)) = (0 : Int32) then (0 : Int32) else 1)), .val (.int (if (flags &&& (2 : Int32)) = (0 : Int32) then (0 : Int32) else 1)), .val (.int (if (flags &&& (4 : Int32)) = (0 : Int32) then (0 : Int32) else 1)), .val (.int (if (flags &&& (8 : Int32)) = (0 : Int32) then (0 : Int32) else 1)), .val (.ref b1), .val (.long (0 : Int64)), .second, .unset, .unset, .unset, .unset, .unset, .unset, .unset, .unset, .unset] [(.int (if (flags &&& (8 : Int32)) = (0 : Int32) then (0 : Int32) else 1))]) (fun t_ k_ => ?_) ?_
  · refine XS.astore X2.here hx rfl (hb hby at_59) rfl rfl (l' := #[.val (.int flags), .val (.long line), .second, .val (.int (if (flags &&& (1 : Int32)) = (0 : Int32) then (0 : Int32) else 1)), .val (.int (if (flags &&& (2 : Int32)) = (0 : Int32) then (0 : Int32) else 1)), .val (.int (if (flags &&& (4 : Int32)) = (0 : Int32) then (0 : Int32) else 1)), .val (.int (if (flags &&& (8 : Int32)) = (0 : Int32) then (0 : Int32) else 1)), .val (.ref b1), .unset, .unset, .unset, .unset, .unset, .unset, .unset, .unset, .unset, .unset, .unset]) rfl ?_
    show Steps p_.tables e_ below (T2.setTop (mkF m_ 61 #[.val (.int flags), .val (.long line), .second, .val (.int (if (flags &&& (1 : Int32)) = (0 : Int32) then (0 : Int32) else 1)), .val (.int (if (flags &&& (2 : Int32)) = (0 : Int32) then (0 : Int32) else 1)), .val (.int (if (flags &&& (4 : Int32)) = (0 : Int32) then (0 : Int32) else 1)), .val (.int (if (flags &&& (8 : Int32)) = (0 : Int32) then (0 : Int32) else 1)), .val (.ref b1), .unset, .unset, .unset, .unset, .unset, .unset, .unset, .unset, .unset, .unset, .unset] [])) t_
    refine XS.lconst X2.here hx rfl (hb hby at_61) ?_
    show Steps p_.tables e_ below (T2.setTop (mkF m_ 62 #[.val (.int flags), .val (.long line), .second, .val (.int (if (flags &&& (1 : Int32)) = (0 : Int32) then (0 : Int32) else 1)), .val (.int (if (flags &&& (2 : Int32)) = (0 : Int32) then (0 : Int32) else 1)), .val (.int (if (flags &&& (4 : Int32)) = (0 : Int32) then (0 : Int32) else 1)), .val (.int (if (flags &&& (8 : Int32)) = (0 : Int32) then (0 : Int32) else 1)), .val (.ref b1), .unset, .unset, .unset, .unset, .unset, .unset, .unset, .unset, .unset, .unset, .unset] [(.long (0 : Int64))])) t_
    refine XS.lstore X2.here hx rfl (hb hby at_62) rfl (l' := #[.val (.int flags), .val (.long line), .second, .val (.int (if (flags &&& (1 : Int32)) = (0 : Int32) then (0 : Int32) else 1)), .val (.int (if (flags &&& (2 : Int32)) = (0 : Int32) then (0 : Int32) else 1)), .val (.int (if (flags &&& (4 : Int32)) = (0 : Int32) then (0 : Int32) else 1)), .val (.int (if (flags &&& (8 : Int32)) = (0 : Int32) then (0 : Int32) else 1)), .val (.ref b1), .val (.long (0 : Int64)), .second, .unset, .unset, .unset, .unset, .unset, .unset, .unset, .unset, .unset]) rfl ?_
    show Steps p_.tables e_ below (T2.setTop (mkF m_ 64 #[.val (.int flags), .val (.long line), .second, .val (.int (if (flags &&& (1 : Int32)) = (0 : Int32) then (0 : Int32) else 1)), .val (.int (if (flags &&& (2 : Int32)) = (0 : Int32) then (0 : Int32) else 1)), .val (.int (if (flags &&& (4 : Int32)) = (0 : Int32) then (0 : Int32) else 1)), .val (.int (if (flags &&& (8 : Int32)) = (0 : Int32) then (0 : Int32) else 1)), .val (.ref b1), .val (.long (0 : Int64)), .second, .unset, .unset, .unset, .unset, .unset, .unset, .unset, .unset, .unset] [])) t_
    refine XS.iload X2.here hx rfl (hb hby at_64) rfl ?_
    show Steps p_.tables e_ below (T2.setTop (mkF m_ 66 #[.val (.int flags), .val (.long line), .second, .val (.int (if (flags &&& (1 : Int32)) = (0 : Int32) then (0 : Int32) else 1)), .val (.int (if (flags &&& (2 : Int32)) = (0 : Int32) then (0 : Int32) else 1)), .val (.int (if (flags &&& (4 : Int32)) = (0 : Int32) then (0 : Int32) else 1)), .val (.int (if (flags &&& (8 : Int32)) = (0 : Int32) then (0 : Int32) else 1)), .val (.ref b1), .val (.long (0 : Int64)), .second, .unset, .unset, .unset, .unset, .unset, .unset, .unset, .unset, .unset] [(.int (if (flags &&& (8 : Int32)) = (0 : Int32) then (0 : Int32) else 1))])) t_
    exact k_
  by_cases hc66 : (flags &&& (8 : Int32)) = (0 : Int32)
  · refine own_st T2 (mkF m_ 90 #[.val (.int flags), .val (.long line), .second, .val (.int (if (flags &&& (1 : Int32)) = (0 : Int32) then (0 : Int32) else 1)), .val (.int (if (flags &&& (2 : Int32)) = (0 : Int32) then (0 : Int32) else 1)), .val (.int (if (flags &&& (4 : Int32)) = (0 : Int32) then (0 : Int32) else 1)), .val (.int (if (flags &&& (8 : Int32)) = (0 : Int32) then (0 : Int32) else 1)), .val (.ref b1), .val (.long (0 : Int64)), .second, .unset, .unset, .unset, .unset, .unset, .unset, .unset, .unset, .unset] []) (fun t_ k_ => XS.ifYes X2.here hx rfl (pc0 := 66) (pc' := 90) rfl (hb hby at_66) rfl ((if0 _ _).trans (teq (own_nt hc66)).1) (by decide) (by decide) k_) ?_
    refine own_st T2 (mkF m_ 93 #[.val (.int flags), .val (.long line), .second, .val (.int (if (flags &&& (1 : Int32)) = (0 : Int32) then (0 : Int32) else 1)), .val (.int (if (flags &&& (2 : Int32)) = (0 : Int32) then (0 : Int32) else 1)), .val (.int (if (flags &&& (4 : Int32)) = (0 : Int32) then (0 : Int32) else 1)), .val (.int (if (flags &&& (8 : Int32)) = (0 : Int32) then (0 : Int32) else 1)), .val (.ref b1), .val (.long (0 : Int64)), .second, .unset, .unset, .unset, .unset, .unset, .unset, .unset, .unset, .unset] [(.int (if (flags &&& (1 : Int32)) = (0 : Int32) then (0 : Int32) else 1)), (.ref b1)]) (fun t_ k_ => ?_) ?_
    · refine XS.aload X2.here hx rfl (hb hby at_90) rfl rfl ?_
      show Steps p_.tables e_ below (T2.setTop (mkF m_ 92 #[.val (.int flags), .val (.long line), .second, .val (.int (if (flags &&& (1 : Int32)) = (0 : Int32) then (0 : Int32) else 1)), .val (.int (if (flags &&& (2 : Int32)) = (0 : Int32) then (0 : Int32) else 1)), .val (.int (if (flags &&& (4 : Int32)) = (0 : Int32) then (0 : Int32) else 1)), .val (.int (if (flags &&& (8 : Int32)) = (0 : Int32) then (0 : Int32) else 1)), .val (.ref b1), .val (.long (0 : Int64)), .second, .unset, .unset, .unset, .unset, .unset, .unset, .unset, .unset, .unset] [(.ref b1)])) t_
      refine XS.iloadN X2.here hx rfl (hb hby at_92) rfl ?_
      show Steps p_.tables e_ below (T2.setTop (mkF m_ 93 #[.val (.int flags), .val (.long line), .second, .val (.int (if (flags &&& (1 : Int32)) = (0 : Int32) then (0 : Int32) else 1)), .val (.int (if (flags &&& (2 : Int32)) = (0 : Int32) then (0 : Int32) else 1)), .val (.int (if (flags &&& (4 : Int32)) = (0 : Int32) then (0 : Int32) else 1)), .val (.int (if (flags &&& (8 : Int32)) = (0 : Int32) then (0 : Int32) else 1)), .val (.ref b1), .val (.long (0 : Int64)), .second, .unset, .unset, .unset, .unset, .unset, .unset, .unset, .unset, .unset] [(.int (if (flags &&& (1 : Int32)) = (0 : Int32) then (0 : Int32) else 1)), (.ref b1)])) t_
      exact k_
    refine own_callV X2 hx hZ (y := (⟨"com/example/keep_count/keepcount/api/BatchResult", "checked", "(Z)V"⟩ : MethodName)) (z := (⟨"com/example/keep_count/keepcount/api/BatchResult", "checked", "(Z)V"⟩ : MethodName)) hown (hw _ (List.mem_of_getElem? (i := 35) rfl)) (hw _ (List.mem_of_getElem? (i := 36) rfl)) (notFace_of_selects (args := #[]) (mvT hZ (hw _ (List.mem_of_getElem? (i := 38) rfl)))) (hw _ (List.mem_of_getElem? (i := 38) rfl)) (hw _ (List.mem_of_getElem? (i := 37) rfl)) (hw _ (List.mem_of_getElem? (i := 2) rfl)) (hw _ (List.mem_of_getElem? (i := 39) rfl)) (by decide) b1 [(.int (if (flags &&& (1 : Int32)) = (0 : Int32) then (0 : Int32) else 1))] [] E_b1 (rm6 l Z a0 hw b1 (if (flags &&& (1 : Int32)) = (0 : Int32) then (0 : Int32) else 1) (0 : Int64) (0 : Int64) (0 : Int64) T2.heap n0 Z0 F_allowed_b1 F_denied_b1 F_rejected_b1 E_b1 g_b1) 0 (by decide) (by decide) rfl (by rw [hml]; rfl) (lenOf own_pd11 rfl) rfl (Nat.le_of_eq rfl) (hb hby at_93) (by decide) (by decide) ?_
    intro v3 T3 L3 X3 q3
    obtain ⟨rfl, N3q, K3, Fq1, Fq2, Fq3⟩ := q3
    have N3 := Fr.app N2 N3q
    replace E_b1 := E_b1.keep K3
    -- F_allowed_b1 is dropped: written by the callee
    -- F_denied_b1 is dropped: written by the callee
    -- F_rejected_b1 is dropped: written by the callee
    -- F_rejections_b1 is dropped: written by the callee
    replace Z0 : n0 ≤ T3.heap.size := Nat.le_trans Z0 K3.1
    have F_allowed_b1 := Fq1
    have F_denied_b1 := Fq2
    have F_rejected_b1 := Fq3
    show own_Out p_ e_ below s_ _ _ _ T3 (mkF m_ 96 #[.val (.int flags), .val (.long line), .second, .val (.int (if (flags &&& (1 : Int32)) = (0 : Int32) then (0 : Int32) else 1)), .val (.int (if (flags &&& (2 : Int32)) = (0 : Int32) then (0 : Int32) else 1)), .val (.int (if (flags &&& (4 : Int32)) = (0 : Int32) then (0 : Int32) else 1)), .val (.int (if (flags &&& (8 : Int32)) = (0 : Int32) then (0 : Int32) else 1)), .val (.ref b1), .val (.long (0 : Int64)), .second, .unset, .unset, .unset, .unset, .unset, .unset, .unset, .unset, .unset] [])
    refine own_st T3 (mkF m_ 115 #[.val (.int flags), .val (.long line), .second, .val (.int (if (flags &&& (1 : Int32)) = (0 : Int32) then (0 : Int32) else 1)), .val (.int (if (flags &&& (2 : Int32)) = (0 : Int32) then (0 : Int32) else 1)), .val (.int (if (flags &&& (4 : Int32)) = (0 : Int32) then (0 : Int32) else 1)), .val (.int (if (flags &&& (8 : Int32)) = (0 : Int32) then (0 : Int32) else 1)), .val (.ref b1), .val (.long (0 : Int64)), .second, .val (.long (if (flags &&& (1 : Int32)) = (0 : Int32) then (0 : Int64) else (1 : Int64))), .second, .val (.long ((1 : Int64) - (if (flags &&& (1 : Int32)) = (0 : Int32) then (0 : Int64) else (1 : Int64)))), .second, .unset, .unset, .unset, .unset, .unset] [(.ref b1)]) (fun t_ k_ => ?_) ?_
    · refine XS.iloadN X3.here hx rfl (hb hby at_96) rfl ?_
      show Steps p_.tables e_ below (T3.setTop (mkF m_ 97 #[.val (.int flags), .val (.long line), .second, .val (.int (if (flags &&& (1 : Int32)) = (0 : Int32) then (0 : Int32) else 1)), .val (.int (if (flags &&& (2 : Int32)) = (0 : Int32) then (0 : Int32) else 1)), .val (.int (if (flags &&& (4 : Int32)) = (0 : Int32) then (0 : Int32) else 1)), .val (.int (if (flags &&& (8 : Int32)) = (0 : Int32) then (0 : Int32) else 1)), .val (.ref b1), .val (.long (0 : Int64)), .second, .unset, .unset, .unset, .unset, .unset, .unset, .unset, .unset, .unset] [(.int (if (flags &&& (1 : Int32)) = (0 : Int32) then (0 : Int32) else 1))])) t_
      have jn97 : ∀ t_, Steps p_.tables e_ below (T3.setTop (mkF m_ 105 #[.val (.int flags), .val (.long line), .second, .val (.int (if (flags &&& (1 : Int32)) = (0 : Int32) then (0 : Int32) else 1)), .val (.int (if (flags &&& (2 : Int32)) = (0 : Int32) then (0 : Int32) else 1)), .val (.int (if (flags &&& (4 : Int32)) = (0 : Int32) then (0 : Int32) else 1)), .val (.int (if (flags &&& (8 : Int32)) = (0 : Int32) then (0 : Int32) else 1)), .val (.ref b1), .val (.long (0 : Int64)), .second, .unset, .unset, .unset, .unset, .unset, .unset, .unset, .unset, .unset] [(.long (if (flags &&& (1 : Int32)) = (0 : Int32) then (0 : Int64) else (1 : Int64)))])) t_ → Steps p_.tables e_ below (T3.setTop (mkF m_ 97 #[.val (.int flags), .val (.long line), .second, .val (.int (if (flags &&& (1 : Int32)) = (0 : Int32) then (0 : Int32) else 1)), .val (.int (if (flags &&& (2 : Int32)) = (0 : Int32) then (0 : Int32) else 1)), .val (.int (if (flags &&& (4 : Int32)) = (0 : Int32) then (0 : Int32) else 1)), .val (.int (if (flags &&& (8 : Int32)) = (0 : Int32) then (0 : Int32) else 1)), .val (.ref b1), .val (.long (0 : Int64)), .second, .unset, .unset, .unset, .unset, .unset, .unset, .unset, .unset, .unset] [(.int (if (flags &&& (1 : Int32)) = (0 : Int32) then (0 : Int32) else 1))])) t_ := by
        intro t_ k_
        by_cases hc97 : (flags &&& (1 : Int32)) = (0 : Int32)
        · refine XS.ifYes X3.here hx rfl (pc0 := 97) (pc' := 104) rfl (hb hby at_97) rfl ((if0 _ _).trans (teq (own_nt hc97)).1) (by decide) (by decide) ?_
          show Steps p_.tables e_ below (T3.setTop (mkF m_ 104 #[.val (.int flags), .val (.long line), .second, .val (.int (if (flags &&& (1 : Int32)) = (0 : Int32) then (0 : Int32) else 1)), .val (.int (if (flags &&& (2 : Int32)) = (0 : Int32) then (0 : Int32) else 1)), .val (.int (if (flags &&& (4 : Int32)) = (0 : Int32) then (0 : Int32) else 1)), .val (.int (if (flags &&& (8 : Int32)) = (0 : Int32) then (0 : Int32) else 1)), .val (.ref b1), .val (.long (0 : Int64)), .second, .unset, .unset, .unset, .unset, .unset, .unset, .unset, .unset, .unset] [])) t_
          refine XS.lconst X3.here hx rfl (hb hby at_104) ?_
          show Steps p_.tables e_ below (T3.setTop (mkF m_ 105 #[.val (.int flags), .val (.long line), .second, .val (.int (if (flags &&& (1 : Int32)) = (0 : Int32) then (0 : Int32) else 1)), .val (.int (if (flags &&& (2 : Int32)) = (0 : Int32) then (0 : Int32) else 1)), .val (.int (if (flags &&& (4 : Int32)) = (0 : Int32) then (0 : Int32) else 1)), .val (.int (if (flags &&& (8 : Int32)) = (0 : Int32) then (0 : Int32) else 1)), .val (.ref b1), .val (.long (0 : Int64)), .second, .unset, .unset, .unset, .unset, .unset, .unset, .unset, .unset, .unset] [(.long (0 : Int64))])) t_
          simp only [if_pos hc97] at k_ ⊢
          exact k_
        · refine XS.ifNo X3.here hx rfl (hb hby at_97) rfl ((if0 _ _).trans (feq (own_nf hc97)).1) ?_
          show Steps p_.tables e_ below (T3.setTop (mkF m_ 100 #[.val (.int flags), .val (.long line), .second, .val (.int (if (flags &&& (1 : Int32)) = (0 : Int32) then (0 : Int32) else 1)), .val (.int (if (flags &&& (2 : Int32)) = (0 : Int32) then (0 : Int32) else 1)), .val (.int (if (flags &&& (4 : Int32)) = (0 : Int32) then (0 : Int32) else 1)), .val (.int (if (flags &&& (8 : Int32)) = (0 : Int32) then (0 : Int32) else 1)), .val (.ref b1), .val (.long (0 : Int64)), .second, .unset, .unset, .unset, .unset, .unset, .unset, .unset, .unset, .unset] [])) t_
          refine XS.lconst X3.here hx rfl (hb hby at_100) ?_
          show Steps p_.tables e_ below (T3.setTop (mkF m_ 101 #[.val (.int flags), .val (.long line), .second, .val (.int (if (flags &&& (1 : Int32)) = (0 : Int32) then (0 : Int32) else 1)), .val (.int (if (flags &&& (2 : Int32)) = (0 : Int32) then (0 : Int32) else 1)), .val (.int (if (flags &&& (4 : Int32)) = (0 : Int32) then (0 : Int32) else 1)), .val (.int (if (flags &&& (8 : Int32)) = (0 : Int32) then (0 : Int32) else 1)), .val (.ref b1), .val (.long (0 : Int64)), .second, .unset, .unset, .unset, .unset, .unset, .unset, .unset, .unset, .unset] [(.long (1 : Int64))])) t_
          refine XS.goto X3.here hx rfl (pc0 := 101) (pc' := 105) rfl (hb hby at_101) (by decide) (by decide) ?_
          show Steps p_.tables e_ below (T3.setTop (mkF m_ 105 #[.val (.int flags), .val (.long line), .second, .val (.int (if (flags &&& (1 : Int32)) = (0 : Int32) then (0 : Int32) else 1)), .val (.int (if (flags &&& (2 : Int32)) = (0 : Int32) then (0 : Int32) else 1)), .val (.int (if (flags &&& (4 : Int32)) = (0 : Int32) then (0 : Int32) else 1)), .val (.int (if (flags &&& (8 : Int32)) = (0 : Int32) then (0 : Int32) else 1)), .val (.ref b1), .val (.long (0 : Int64)), .second, .unset, .unset, .unset, .unset, .unset, .unset, .unset, .unset, .unset] [(.long (1 : Int64))])) t_
          simp only [if_neg hc97] at k_ ⊢
          exact k_
      refine jn97 _ ?_
      show Steps p_.tables e_ below (T3.setTop (mkF m_ 105 #[.val (.int flags), .val (.long line), .second, .val (.int (if (flags &&& (1 : Int32)) = (0 : Int32) then (0 : Int32) else 1)), .val (.int (if (flags &&& (2 : Int32)) = (0 : Int32) then (0 : Int32) else 1)), .val (.int (if (flags &&& (4 : Int32)) = (0 : Int32) then (0 : Int32) else 1)), .val (.int (if (flags &&& (8 : Int32)) = (0 : Int32) then (0 : Int32) else 1)), .val (.ref b1), .val (.long (0 : Int64)), .second, .unset, .unset, .unset, .unset, .unset, .unset, .unset, .unset, .unset] [(.long (if (flags &&& (1 : Int32)) = (0 : Int32) then (0 : Int64) else (1 : Int64)))])) t_
      refine XS.lstore X3.here hx rfl (hb hby at_105) rfl (l' := #[.val (.int flags), .val (.long line), .second, .val (.int (if (flags &&& (1 : Int32)) = (0 : Int32) then (0 : Int32) else 1)), .val (.int (if (flags &&& (2 : Int32)) = (0 : Int32) then (0 : Int32) else 1)), .val (.int (if (flags &&& (4 : Int32)) = (0 : Int32) then (0 : Int32) else 1)), .val (.int (if (flags &&& (8 : Int32)) = (0 : Int32) then (0 : Int32) else 1)), .val (.ref b1), .val (.long (0 : Int64)), .second, .val (.long (if (flags &&& (1 : Int32)) = (0 : Int32) then (0 : Int64) else (1 : Int64))), .second, .unset, .unset, .unset, .unset, .unset, .unset, .unset]) rfl ?_
      show Steps p_.tables e_ below (T3.setTop (mkF m_ 107 #[.val (.int flags), .val (.long line), .second, .val (.int (if (flags &&& (1 : Int32)) = (0 : Int32) then (0 : Int32) else 1)), .val (.int (if (flags &&& (2 : Int32)) = (0 : Int32) then (0 : Int32) else 1)), .val (.int (if (flags &&& (4 : Int32)) = (0 : Int32) then (0 : Int32) else 1)), .val (.int (if (flags &&& (8 : Int32)) = (0 : Int32) then (0 : Int32) else 1)), .val (.ref b1), .val (.long (0 : Int64)), .second, .val (.long (if (flags &&& (1 : Int32)) = (0 : Int32) then (0 : Int64) else (1 : Int64))), .second, .unset, .unset, .unset, .unset, .unset, .unset, .unset] [])) t_
      refine XS.lconst X3.here hx rfl (hb hby at_107) ?_
      show Steps p_.tables e_ below (T3.setTop (mkF m_ 108 #[.val (.int flags), .val (.long line), .second, .val (.int (if (flags &&& (1 : Int32)) = (0 : Int32) then (0 : Int32) else 1)), .val (.int (if (flags &&& (2 : Int32)) = (0 : Int32) then (0 : Int32) else 1)), .val (.int (if (flags &&& (4 : Int32)) = (0 : Int32) then (0 : Int32) else 1)), .val (.int (if (flags &&& (8 : Int32)) = (0 : Int32) then (0 : Int32) else 1)), .val (.ref b1), .val (.long (0 : Int64)), .second, .val (.long (if (flags &&& (1 : Int32)) = (0 : Int32) then (0 : Int64) else (1 : Int64))), .second, .unset, .unset, .unset, .unset, .unset, .unset, .unset] [(.long (1 : Int64))])) t_
      refine XS.lload X3.here hx rfl (hb hby at_108) rfl ?_
      show Steps p_.tables e_ below (T3.setTop (mkF m_ 110 #[.val (.int flags), .val (.long line), .second, .val (.int (if (flags &&& (1 : Int32)) = (0 : Int32) then (0 : Int32) else 1)), .val (.int (if (flags &&& (2 : Int32)) = (0 : Int32) then (0 : Int32) else 1)), .val (.int (if (flags &&& (4 : Int32)) = (0 : Int32) then (0 : Int32) else 1)), .val (.int (if (flags &&& (8 : Int32)) = (0 : Int32) then (0 : Int32) else 1)), .val (.ref b1), .val (.long (0 : Int64)), .second, .val (.long (if (flags &&& (1 : Int32)) = (0 : Int32) then (0 : Int64) else (1 : Int64))), .second, .unset, .unset, .unset, .unset, .unset, .unset, .unset] [(.long (if (flags &&& (1 : Int32)) = (0 : Int32) then (0 : Int64) else (1 : Int64))), (.long (1 : Int64))])) t_
      refine XS.lsub X3.here hx rfl (hb hby at_110) rfl ?_
      show Steps p_.tables e_ below (T3.setTop (mkF m_ 111 #[.val (.int flags), .val (.long line), .second, .val (.int (if (flags &&& (1 : Int32)) = (0 : Int32) then (0 : Int32) else 1)), .val (.int (if (flags &&& (2 : Int32)) = (0 : Int32) then (0 : Int32) else 1)), .val (.int (if (flags &&& (4 : Int32)) = (0 : Int32) then (0 : Int32) else 1)), .val (.int (if (flags &&& (8 : Int32)) = (0 : Int32) then (0 : Int32) else 1)), .val (.ref b1), .val (.long (0 : Int64)), .second, .val (.long (if (flags &&& (1 : Int32)) = (0 : Int32) then (0 : Int64) else (1 : Int64))), .second, .unset, .unset, .unset, .unset, .unset, .unset, .unset] [(.long ((1 : Int64) - (if (flags &&& (1 : Int32)) = (0 : Int32) then (0 : Int64) else (1 : Int64))))])) t_
      refine XS.lstore X3.here hx rfl (hb hby at_111) rfl (l' := #[.val (.int flags), .val (.long line), .second, .val (.int (if (flags &&& (1 : Int32)) = (0 : Int32) then (0 : Int32) else 1)), .val (.int (if (flags &&& (2 : Int32)) = (0 : Int32) then (0 : Int32) else 1)), .val (.int (if (flags &&& (4 : Int32)) = (0 : Int32) then (0 : Int32) else 1)), .val (.int (if (flags &&& (8 : Int32)) = (0 : Int32) then (0 : Int32) else 1)), .val (.ref b1), .val (.long (0 : Int64)), .second, .val (.long (if (flags &&& (1 : Int32)) = (0 : Int32) then (0 : Int64) else (1 : Int64))), .second, .val (.long ((1 : Int64) - (if (flags &&& (1 : Int32)) = (0 : Int32) then (0 : Int64) else (1 : Int64)))), .second, .unset, .unset, .unset, .unset, .unset]) rfl ?_
      show Steps p_.tables e_ below (T3.setTop (mkF m_ 113 #[.val (.int flags), .val (.long line), .second, .val (.int (if (flags &&& (1 : Int32)) = (0 : Int32) then (0 : Int32) else 1)), .val (.int (if (flags &&& (2 : Int32)) = (0 : Int32) then (0 : Int32) else 1)), .val (.int (if (flags &&& (4 : Int32)) = (0 : Int32) then (0 : Int32) else 1)), .val (.int (if (flags &&& (8 : Int32)) = (0 : Int32) then (0 : Int32) else 1)), .val (.ref b1), .val (.long (0 : Int64)), .second, .val (.long (if (flags &&& (1 : Int32)) = (0 : Int32) then (0 : Int64) else (1 : Int64))), .second, .val (.long ((1 : Int64) - (if (flags &&& (1 : Int32)) = (0 : Int32) then (0 : Int64) else (1 : Int64)))), .second, .unset, .unset, .unset, .unset, .unset] [])) t_
      refine XS.aload X3.here hx rfl (hb hby at_113) rfl rfl ?_
      show Steps p_.tables e_ below (T3.setTop (mkF m_ 115 #[.val (.int flags), .val (.long line), .second, .val (.int (if (flags &&& (1 : Int32)) = (0 : Int32) then (0 : Int32) else 1)), .val (.int (if (flags &&& (2 : Int32)) = (0 : Int32) then (0 : Int32) else 1)), .val (.int (if (flags &&& (4 : Int32)) = (0 : Int32) then (0 : Int32) else 1)), .val (.int (if (flags &&& (8 : Int32)) = (0 : Int32) then (0 : Int32) else 1)), .val (.ref b1), .val (.long (0 : Int64)), .second, .val (.long (if (flags &&& (1 : Int32)) = (0 : Int32) then (0 : Int64) else (1 : Int64))), .second, .val (.long ((1 : Int64) - (if (flags &&& (1 : Int32)) = (0 : Int32) then (0 : Int64) else (1 : Int64)))), .second, .unset, .unset, .unset, .unset, .unset] [(.ref b1)])) t_
      exact k_
    refine own_callV X3 hx hZ (y := (⟨"com/example/keep_count/keepcount/api/BatchResult", "allowed", "()J"⟩ : MethodName)) (z := (⟨"com/example/keep_count/keepcount/api/BatchResult", "allowed", "()J"⟩ : MethodName)) hown (hw _ (List.mem_of_getElem? (i := 42) rfl)) (hw _ (List.mem_of_getElem? (i := 43) rfl)) (notFace_of_selects (args := #[]) (mvT hZ (hw _ (List.mem_of_getElem? (i := 45) rfl)))) (hw _ (List.mem_of_getElem? (i := 45) rfl)) (hw _ (List.mem_of_getElem? (i := 44) rfl)) (hw _ (List.mem_of_getElem? (i := 2) rfl)) (hw _ (List.mem_of_getElem? (i := 46) rfl)) (by decide) b1 [] [] E_b1 (rm7 l Z a0 hw b1 (own_al (if (flags &&& (1 : Int32)) = (0 : Int32) then (0 : Int32) else 1) (0 : Int64)) (own_de (if (flags &&& (1 : Int32)) = (0 : Int32) then (0 : Int32) else 1) (0 : Int64)) (0 : Int64) T3.heap n0 Z0 F_allowed_b1 F_denied_b1 F_rejected_b1) 0 (by decide) (by decide) rfl (by rw [hml]; rfl) (lenOf own_pd12 rfl) rfl (Nat.le_of_eq rfl) (hb hby at_115) (by decide) (by decide) ?_
    intro v4 T4 L4 X4 q4
    obtain ⟨rfl, N4q, e4⟩ := q4
    have N4 := Fr.app N3 N4q
    show own_Out p_ e_ below s_ _ _ _ T4 (mkF m_ 118 #[.val (.int flags), .val (.long line), .second, .val (.int (if (flags &&& (1 : Int32)) = (0 : Int32) then (0 : Int32) else 1)), .val (.int (if (flags &&& (2 : Int32)) = (0 : Int32) then (0 : Int32) else 1)), .val (.int (if (flags &&& (4 : Int32)) = (0 : Int32) then (0 : Int32) else 1)), .val (.int (if (flags &&& (8 : Int32)) = (0 : Int32) then (0 : Int32) else 1)), .val (.ref b1), .val (.long (0 : Int64)), .second, .val (.long (if (flags &&& (1 : Int32)) = (0 : Int32) then (0 : Int64) else (1 : Int64))), .second, .val (.long ((1 : Int64) - (if (flags &&& (1 : Int32)) = (0 : Int32) then (0 : Int64) else (1 : Int64)))), .second, .unset, .unset, .unset, .unset, .unset] [(.long (own_al (if (flags &&& (1 : Int32)) = (0 : Int32) then (0 : Int32) else 1) (0 : Int64)))])
    refine own_st T4 (mkF m_ 126 #[.val (.int flags), .val (.long line), .second, .val (.int (if (flags &&& (1 : Int32)) = (0 : Int32) then (0 : Int32) else 1)), .val (.int (if (flags &&& (2 : Int32)) = (0 : Int32) then (0 : Int32) else 1)), .val (.int (if (flags &&& (4 : Int32)) = (0 : Int32) then (0 : Int32) else 1)), .val (.int (if (flags &&& (8 : Int32)) = (0 : Int32) then (0 : Int32) else 1)), .val (.ref b1), .val (.long (0 : Int64)), .second, .val (.long (if (flags &&& (1 : Int32)) = (0 : Int32) then (0 : Int64) else (1 : Int64))), .second, .val (.long ((1 : Int64) - (if (flags &&& (1 : Int32)) = (0 : Int32) then (0 : Int64) else (1 : Int64)))), .second, .unset, .unset, .unset, .unset, .unset] [(.ref b1)]) (fun t_ k_ => ?_) ?_
    · refine XS.lload X4.here hx rfl (hb hby at_118) rfl ?_
      show Steps p_.tables e_ below (T4.setTop (mkF m_ 120 #[.val (.int flags), .val (.long line), .second, .val (.int (if (flags &&& (1 : Int32)) = (0 : Int32) then (0 : Int32) else 1)), .val (.int (if (flags &&& (2 : Int32)) = (0 : Int32) then (0 : Int32) else 1)), .val (.int (if (flags &&& (4 : Int32)) = (0 : Int32) then (0 : Int32) else 1)), .val (.int (if (flags &&& (8 : Int32)) = (0 : Int32) then (0 : Int32) else 1)), .val (.ref b1), .val (.long (0 : Int64)), .second, .val (.long (if (flags &&& (1 : Int32)) = (0 : Int32) then (0 : Int64) else (1 : Int64))), .second, .val (.long ((1 : Int64) - (if (flags &&& (1 : Int32)) = (0 : Int32) then (0 : Int64) else (1 : Int64)))), .second, .unset, .unset, .unset, .unset, .unset] [(.long (if (flags &&& (1 : Int32)) = (0 : Int32) then (0 : Int64) else (1 : Int64))), (.long (own_al (if (flags &&& (1 : Int32)) = (0 : Int32) then (0 : Int32) else 1) (0 : Int64)))])) t_
      refine XS.lcmp X4.here hx rfl (hb hby at_120) rfl ?_
      show Steps p_.tables e_ below (T4.setTop (mkF m_ 121 #[.val (.int flags), .val (.long line), .second, .val (.int (if (flags &&& (1 : Int32)) = (0 : Int32) then (0 : Int32) else 1)), .val (.int (if (flags &&& (2 : Int32)) = (0 : Int32) then (0 : Int32) else 1)), .val (.int (if (flags &&& (4 : Int32)) = (0 : Int32) then (0 : Int32) else 1)), .val (.int (if (flags &&& (8 : Int32)) = (0 : Int32) then (0 : Int32) else 1)), .val (.ref b1), .val (.long (0 : Int64)), .second, .val (.long (if (flags &&& (1 : Int32)) = (0 : Int32) then (0 : Int64) else (1 : Int64))), .second, .val (.long ((1 : Int64) - (if (flags &&& (1 : Int32)) = (0 : Int32) then (0 : Int64) else (1 : Int64)))), .second, .unset, .unset, .unset, .unset, .unset] [(.int (lcmpW (own_al (if (flags &&& (1 : Int32)) = (0 : Int32) then (0 : Int32) else 1) (0 : Int64)) (if (flags &&& (1 : Int32)) = (0 : Int32) then (0 : Int64) else (1 : Int64))))])) t_
      refine XS.ifNo X4.here hx rfl (hb hby at_121) rfl ((if0 _ _).trans (teq ((lw_eq (own_al (if (flags &&& (1 : Int32)) = (0 : Int32) then (0 : Int32) else 1) (0 : Int64)) (if (flags &&& (1 : Int32)) = (0 : Int32) then (0 : Int64) else (1 : Int64))).mpr (by by_cases q0 : (flags &&& (1 : Int32)) = (0 : Int32) <;> by_cases q1 : (flags &&& (2 : Int32)) = (0 : Int32) <;> by_cases q2 : (flags &&& (4 : Int32)) = (0 : Int32) <;> (try simp only [own_al, own_de, q0, q1, q2, if_true, if_false]) <;> decide : (own_al (if (flags &&& (1 : Int32)) = (0 : Int32) then (0 : Int32) else 1) (0 : Int64)) = (if (flags &&& (1 : Int32)) = (0 : Int32) then (0 : Int64) else (1 : Int64))))).2) ?_
      show Steps p_.tables e_ below (T4.setTop (mkF m_ 124 #[.val (.int flags), .val (.long line), .second, .val (.int (if (flags &&& (1 : Int32)) = (0 : Int32) then (0 : Int32) else 1)), .val (.int (if (flags &&& (2 : Int32)) = (0 : Int32) then (0 : Int32) else 1)), .val (.int (if (flags &&& (4 : Int32)) = (0 : Int32) then (0 : Int32) else 1)), .val (.int (if (flags &&& (8 : Int32)) = (0 : Int32) then (0 : Int32) else 1)), .val (.ref b1), .val (.long (0 : Int64)), .second, .val (.long (if (flags &&& (1 : Int32)) = (0 : Int32) then (0 : Int64) else (1 : Int64))), .second, .val (.long ((1 : Int64) - (if (flags &&& (1 : Int32)) = (0 : Int32) then (0 : Int64) else (1 : Int64)))), .second, .unset, .unset, .unset, .unset, .unset] [])) t_
      refine XS.aload X4.here hx rfl (hb hby at_124) rfl rfl ?_
      show Steps p_.tables e_ below (T4.setTop (mkF m_ 126 #[.val (.int flags), .val (.long line), .second, .val (.int (if (flags &&& (1 : Int32)) = (0 : Int32) then (0 : Int32) else 1)), .val (.int (if (flags &&& (2 : Int32)) = (0 : Int32) then (0 : Int32) else 1)), .val (.int (if (flags &&& (4 : Int32)) = (0 : Int32) then (0 : Int32) else 1)), .val (.int (if (flags &&& (8 : Int32)) = (0 : Int32) then (0 : Int32) else 1)), .val (.ref b1), .val (.long (0 : Int64)), .second, .val (.long (if (flags &&& (1 : Int32)) = (0 : Int32) then (0 : Int64) else (1 : Int64))), .second, .val (.long ((1 : Int64) - (if (flags &&& (1 : Int32)) = (0 : Int32) then (0 : Int64) else (1 : Int64)))), .second, .unset, .unset, .unset, .unset, .unset] [(.ref b1)])) t_
      exact k_
    refine own_callV X4 hx hZ (y := (⟨"com/example/keep_count/keepcount/api/BatchResult", "denied", "()J"⟩ : MethodName)) (z := (⟨"com/example/keep_count/keepcount/api/BatchResult", "denied", "()J"⟩ : MethodName)) hown (hw _ (List.mem_of_getElem? (i := 49) rfl)) (hw _ (List.mem_of_getElem? (i := 50) rfl)) (notFace_of_selects (args := #[]) (mvT hZ (hw _ (List.mem_of_getElem? (i := 52) rfl)))) (hw _ (List.mem_of_getElem? (i := 52) rfl)) (hw _ (List.mem_of_getElem? (i := 51) rfl)) (hw _ (List.mem_of_getElem? (i := 2) rfl)) (hw _ (List.mem_of_getElem? (i := 53) rfl)) (by decide) b1 [] [] E_b1 (rm8 l Z a0 hw b1 (own_al (if (flags &&& (1 : Int32)) = (0 : Int32) then (0 : Int32) else 1) (0 : Int64)) (own_de (if (flags &&& (1 : Int32)) = (0 : Int32) then (0 : Int32) else 1) (0 : Int64)) (0 : Int64) T3.heap n0 Z0 F_allowed_b1 F_denied_b1 F_rejected_b1) 0 (by decide) (by decide) e4 (by rw [hml]; rfl) (lenOf own_pd12 rfl) rfl (Nat.le_of_eq rfl) (hb hby at_126) (by decide) (by decide) ?_
    intro v5 T5 L5 X5 q5
    obtain ⟨rfl, N5q, e5⟩ := q5
    have N5 := Fr.app N4 N5q
    show own_Out p_ e_ below s_ _ _ _ T5 (mkF m_ 129 #[.val (.int flags), .val (.long line), .second, .val (.int (if (flags &&& (1 : Int32)) = (0 : Int32) then (0 : Int32) else 1)), .val (.int (if (flags &&& (2 : Int32)) = (0 : Int32) then (0 : Int32) else 1)), .val (.int (if (flags &&& (4 : Int32)) = (0 : Int32) then (0 : Int32) else 1)), .val (.int (if (flags &&& (8 : Int32)) = (0 : Int32) then (0 : Int32) else 1)), .val (.ref b1), .val (.long (0 : Int64)), .second, .val (.long (if (flags &&& (1 : Int32)) = (0 : Int32) then (0 : Int64) else (1 : Int64))), .second, .val (.long ((1 : Int64) - (if (flags &&& (1 : Int32)) = (0 : Int32) then (0 : Int64) else (1 : Int64)))), .second, .unset, .unset, .unset, .unset, .unset] [(.long (own_de (if (flags &&& (1 : Int32)) = (0 : Int32) then (0 : Int32) else 1) (0 : Int64)))])
    refine own_st T5 (mkF m_ 146 #[.val (.int flags), .val (.long line), .second, .val (.int (if (flags &&& (1 : Int32)) = (0 : Int32) then (0 : Int32) else 1)), .val (.int (if (flags &&& (2 : Int32)) = (0 : Int32) then (0 : Int32) else 1)), .val (.int (if (flags &&& (4 : Int32)) = (0 : Int32) then (0 : Int32) else 1)), .val (.int (if (flags &&& (8 : Int32)) = (0 : Int32) then (0 : Int32) else 1)), .val (.ref b1), .val (.long (0 : Int64)), .second, .val (.long (if (flags &&& (1 : Int32)) = (0 : Int32) then (0 : Int64) else (1 : Int64))), .second, .val (.long ((1 : Int64) - (if (flags &&& (1 : Int32)) = (0 : Int32) then (0 : Int64) else (1 : Int64)))), .second, .val (.int (1 : Int32)), .unset, .unset, .unset, .unset] [(.int (if (flags &&& (2 : Int32)) = (0 : Int32) then (0 : Int32) else 1)), (.ref b1)]) (fun t_ k_ => ?_) ?_
    · refine XS.lload X5.here hx rfl (hb hby at_129) rfl ?_
      show Steps p_.tables e_ below (T5.setTop (mkF m_ 131 #[.val (.int flags), .val (.long line), .second, .val (.int (if (flags &&& (1 : Int32)) = (0 : Int32) then (0 : Int32) else 1)), .val (.int (if (flags &&& (2 : Int32)) = (0 : Int32) then (0 : Int32) else 1)), .val (.int (if (flags &&& (4 : Int32)) = (0 : Int32) then (0 : Int32) else 1)), .val (.int (if (flags &&& (8 : Int32)) = (0 : Int32) then (0 : Int32) else 1)), .val (.ref b1), .val (.long (0 : Int64)), .second, .val (.long (if (flags &&& (1 : Int32)) = (0 : Int32) then (0 : Int64) else (1 : Int64))), .second, .val (.long ((1 : Int64) - (if (flags &&& (1 : Int32)) = (0 : Int32) then (0 : Int64) else (1 : Int64)))), .second, .unset, .unset, .unset, .unset, .unset] [(.long ((1 : Int64) - (if (flags &&& (1 : Int32)) = (0 : Int32) then (0 : Int64) else (1 : Int64)))), (.long (own_de (if (flags &&& (1 : Int32)) = (0 : Int32) then (0 : Int32) else 1) (0 : Int64)))])) t_
      refine XS.lcmp X5.here hx rfl (hb hby at_131) rfl ?_
      show Steps p_.tables e_ below (T5.setTop (mkF m_ 132 #[.val (.int flags), .val (.long line), .second, .val (.int (if (flags &&& (1 : Int32)) = (0 : Int32) then (0 : Int32) else 1)), .val (.int (if (flags &&& (2 : Int32)) = (0 : Int32) then (0 : Int32) else 1)), .val (.int (if (flags &&& (4 : Int32)) = (0 : Int32) then (0 : Int32) else 1)), .val (.int (if (flags &&& (8 : Int32)) = (0 : Int32) then (0 : Int32) else 1)), .val (.ref b1), .val (.long (0 : Int64)), .second, .val (.long (if (flags &&& (1 : Int32)) = (0 : Int32) then (0 : Int64) else (1 : Int64))), .second, .val (.long ((1 : Int64) - (if (flags &&& (1 : Int32)) = (0 : Int32) then (0 : Int64) else (1 : Int64)))), .second, .unset, .unset, .unset, .unset, .unset] [(.int (lcmpW (own_de (if (flags &&& (1 : Int32)) = (0 : Int32) then (0 : Int32) else 1) (0 : Int64)) ((1 : Int64) - (if (flags &&& (1 : Int32)) = (0 : Int32) then (0 : Int64) else (1 : Int64)))))])) t_
      refine XS.ifNo X5.here hx rfl (hb hby at_132) rfl ((if0 _ _).trans (teq ((lw_eq (own_de (if (flags &&& (1 : Int32)) = (0 : Int32) then (0 : Int32) else 1) (0 : Int64)) ((1 : Int64) - (if (flags &&& (1 : Int32)) = (0 : Int32) then (0 : Int64) else (1 : Int64)))).mpr (by by_cases q0 : (flags &&& (1 : Int32)) = (0 : Int32) <;> by_cases q1 : (flags &&& (2 : Int32)) = (0 : Int32) <;> by_cases q2 : (flags &&& (4 : Int32)) = (0 : Int32) <;> (try simp only [own_al, own_de, q0, q1, q2, if_true, if_false]) <;> decide : (own_de (if (flags &&& (1 : Int32)) = (0 : Int32) then (0 : Int32) else 1) (0 : Int64)) = ((1 : Int64) - (if (flags &&& (1 : Int32)) = (0 : Int32) then (0 : Int64) else (1 : Int64)))))).2) ?_
      show Steps p_.tables e_ below (T5.setTop (mkF m_ 135 #[.val (.int flags), .val (.long line), .second, .val (.int (if (flags &&& (1 : Int32)) = (0 : Int32) then (0 : Int32) else 1)), .val (.int (if (flags &&& (2 : Int32)) = (0 : Int32) then (0 : Int32) else 1)), .val (.int (if (flags &&& (4 : Int32)) = (0 : Int32) then (0 : Int32) else 1)), .val (.int (if (flags &&& (8 : Int32)) = (0 : Int32) then (0 : Int32) else 1)), .val (.ref b1), .val (.long (0 : Int64)), .second, .val (.long (if (flags &&& (1 : Int32)) = (0 : Int32) then (0 : Int64) else (1 : Int64))), .second, .val (.long ((1 : Int64) - (if (flags &&& (1 : Int32)) = (0 : Int32) then (0 : Int64) else (1 : Int64)))), .second, .unset, .unset, .unset, .unset, .unset] [])) t_
      refine XS.iconst X5.here hx rfl (hb hby at_135) ?_
      show Steps p_.tables e_ below (T5.setTop (mkF m_ 136 #[.val (.int flags), .val (.long line), .second, .val (.int (if (flags &&& (1 : Int32)) = (0 : Int32) then (0 : Int32) else 1)), .val (.int (if (flags &&& (2 : Int32)) = (0 : Int32) then (0 : Int32) else 1)), .val (.int (if (flags &&& (4 : Int32)) = (0 : Int32) then (0 : Int32) else 1)), .val (.int (if (flags &&& (8 : Int32)) = (0 : Int32) then (0 : Int32) else 1)), .val (.ref b1), .val (.long (0 : Int64)), .second, .val (.long (if (flags &&& (1 : Int32)) = (0 : Int32) then (0 : Int64) else (1 : Int64))), .second, .val (.long ((1 : Int64) - (if (flags &&& (1 : Int32)) = (0 : Int32) then (0 : Int64) else (1 : Int64)))), .second, .unset, .unset, .unset, .unset, .unset] [(.int (1 : Int32))])) t_
      refine XS.goto X5.here hx rfl (pc0 := 136) (pc' := 140) rfl (hb hby at_136) (by decide) (by decide) ?_
      show Steps p_.tables e_ below (T5.setTop (mkF m_ 140 #[.val (.int flags), .val (.long line), .second, .val (.int (if (flags &&& (1 : Int32)) = (0 : Int32) then (0 : Int32) else 1)), .val (.int (if (flags &&& (2 : Int32)) = (0 : Int32) then (0 : Int32) else 1)), .val (.int (if (flags &&& (4 : Int32)) = (0 : Int32) then (0 : Int32) else 1)), .val (.int (if (flags &&& (8 : Int32)) = (0 : Int32) then (0 : Int32) else 1)), .val (.ref b1), .val (.long (0 : Int64)), .second, .val (.long (if (flags &&& (1 : Int32)) = (0 : Int32) then (0 : Int64) else (1 : Int64))), .second, .val (.long ((1 : Int64) - (if (flags &&& (1 : Int32)) = (0 : Int32) then (0 : Int64) else (1 : Int64)))), .second, .unset, .unset, .unset, .unset, .unset] [(.int (1 : Int32))])) t_
      refine XS.istore X5.here hx rfl (hb hby at_140) rfl (l' := #[.val (.int flags), .val (.long line), .second, .val (.int (if (flags &&& (1 : Int32)) = (0 : Int32) then (0 : Int32) else 1)), .val (.int (if (flags &&& (2 : Int32)) = (0 : Int32) then (0 : Int32) else 1)), .val (.int (if (flags &&& (4 : Int32)) = (0 : Int32) then (0 : Int32) else 1)), .val (.int (if (flags &&& (8 : Int32)) = (0 : Int32) then (0 : Int32) else 1)), .val (.ref b1), .val (.long (0 : Int64)), .second, .val (.long (if (flags &&& (1 : Int32)) = (0 : Int32) then (0 : Int64) else (1 : Int64))), .second, .val (.long ((1 : Int64) - (if (flags &&& (1 : Int32)) = (0 : Int32) then (0 : Int64) else (1 : Int64)))), .second, .val (.int (1 : Int32)), .unset, .unset, .unset, .unset]) rfl ?_
      show Steps p_.tables e_ below (T5.setTop (mkF m_ 142 #[.val (.int flags), .val (.long line), .second, .val (.int (if (flags &&& (1 : Int32)) = (0 : Int32) then (0 : Int32) else 1)), .val (.int (if (flags &&& (2 : Int32)) = (0 : Int32) then (0 : Int32) else 1)), .val (.int (if (flags &&& (4 : Int32)) = (0 : Int32) then (0 : Int32) else 1)), .val (.int (if (flags &&& (8 : Int32)) = (0 : Int32) then (0 : Int32) else 1)), .val (.ref b1), .val (.long (0 : Int64)), .second, .val (.long (if (flags &&& (1 : Int32)) = (0 : Int32) then (0 : Int64) else (1 : Int64))), .second, .val (.long ((1 : Int64) - (if (flags &&& (1 : Int32)) = (0 : Int32) then (0 : Int64) else (1 : Int64)))), .second, .val (.int (1 : Int32)), .unset, .unset, .unset, .unset] [])) t_
      refine XS.aload X5.here hx rfl (hb hby at_142) rfl rfl ?_
      show Steps p_.tables e_ below (T5.setTop (mkF m_ 144 #[.val (.int flags), .val (.long line), .second, .val (.int (if (flags &&& (1 : Int32)) = (0 : Int32) then (0 : Int32) else 1)), .val (.int (if (flags &&& (2 : Int32)) = (0 : Int32) then (0 : Int32) else 1)), .val (.int (if (flags &&& (4 : Int32)) = (0 : Int32) then (0 : Int32) else 1)), .val (.int (if (flags &&& (8 : Int32)) = (0 : Int32) then (0 : Int32) else 1)), .val (.ref b1), .val (.long (0 : Int64)), .second, .val (.long (if (flags &&& (1 : Int32)) = (0 : Int32) then (0 : Int64) else (1 : Int64))), .second, .val (.long ((1 : Int64) - (if (flags &&& (1 : Int32)) = (0 : Int32) then (0 : Int64) else (1 : Int64)))), .second, .val (.int (1 : Int32)), .unset, .unset, .unset, .unset] [(.ref b1)])) t_
      refine XS.iload X5.here hx rfl (hb hby at_144) rfl ?_
      show Steps p_.tables e_ below (T5.setTop (mkF m_ 146 #[.val (.int flags), .val (.long line), .second, .val (.int (if (flags &&& (1 : Int32)) = (0 : Int32) then (0 : Int32) else 1)), .val (.int (if (flags &&& (2 : Int32)) = (0 : Int32) then (0 : Int32) else 1)), .val (.int (if (flags &&& (4 : Int32)) = (0 : Int32) then (0 : Int32) else 1)), .val (.int (if (flags &&& (8 : Int32)) = (0 : Int32) then (0 : Int32) else 1)), .val (.ref b1), .val (.long (0 : Int64)), .second, .val (.long (if (flags &&& (1 : Int32)) = (0 : Int32) then (0 : Int64) else (1 : Int64))), .second, .val (.long ((1 : Int64) - (if (flags &&& (1 : Int32)) = (0 : Int32) then (0 : Int64) else (1 : Int64)))), .second, .val (.int (1 : Int32)), .unset, .unset, .unset, .unset] [(.int (if (flags &&& (2 : Int32)) = (0 : Int32) then (0 : Int32) else 1)), (.ref b1)])) t_
      exact k_
    refine own_callV X5 hx hZ (y := (⟨"com/example/keep_count/keepcount/api/BatchResult", "checked", "(Z)V"⟩ : MethodName)) (z := (⟨"com/example/keep_count/keepcount/api/BatchResult", "checked", "(Z)V"⟩ : MethodName)) hown (hw _ (List.mem_of_getElem? (i := 35) rfl)) (hw _ (List.mem_of_getElem? (i := 36) rfl)) (notFace_of_selects (args := #[]) (mvT hZ (hw _ (List.mem_of_getElem? (i := 38) rfl)))) (hw _ (List.mem_of_getElem? (i := 38) rfl)) (hw _ (List.mem_of_getElem? (i := 37) rfl)) (hw _ (List.mem_of_getElem? (i := 2) rfl)) (hw _ (List.mem_of_getElem? (i := 39) rfl)) (by decide) b1 [(.int (if (flags &&& (2 : Int32)) = (0 : Int32) then (0 : Int32) else 1))] [] E_b1 (rm6 l Z a0 hw b1 (if (flags &&& (2 : Int32)) = (0 : Int32) then (0 : Int32) else 1) (own_al (if (flags &&& (1 : Int32)) = (0 : Int32) then (0 : Int32) else 1) (0 : Int64)) (own_de (if (flags &&& (1 : Int32)) = (0 : Int32) then (0 : Int32) else 1) (0 : Int64)) (0 : Int64) T3.heap n0 Z0 F_allowed_b1 F_denied_b1 F_rejected_b1 E_b1 g_b1) 0 (by decide) (by decide) e5 (by rw [hml]; rfl) (lenOf own_pd11 rfl) rfl (Nat.le_of_eq rfl) (hb hby at_146) (by decide) (by decide) ?_
    intro v6 T6 L6 X6 q6
    obtain ⟨rfl, N6q, K6, Fq1, Fq2, Fq3⟩ := q6
    have N6 := Fr.app N5 N6q
    replace E_b1 := E_b1.keep K6
    -- F_allowed_b1 is dropped: written by the callee
    -- F_denied_b1 is dropped: written by the callee
    -- F_rejected_b1 is dropped: written by the callee
    replace Z0 : n0 ≤ T6.heap.size := Nat.le_trans Z0 K6.1
    have F_allowed_b1 := Fq1
    have F_denied_b1 := Fq2
    have F_rejected_b1 := Fq3
    show own_Out p_ e_ below s_ _ _ _ T6 (mkF m_ 149 #[.val (.int flags), .val (.long line), .second, .val (.int (if (flags &&& (1 : Int32)) = (0 : Int32) then (0 : Int32) else 1)), .val (.int (if (flags &&& (2 : Int32)) = (0 : Int32) then (0 : Int32) else 1)), .val (.int (if (flags &&& (4 : Int32)) = (0 : Int32) then (0 : Int32) else 1)), .val (.int (if (flags &&& (8 : Int32)) = (0 : Int32) then (0 : Int32) else 1)), .val (.ref b1), .val (.long (0 : Int64)), .second, .val (.long (if (flags &&& (1 : Int32)) = (0 : Int32) then (0 : Int64) else (1 : Int64))), .second, .val (.long ((1 : Int64) - (if (flags &&& (1 : Int32)) = (0 : Int32) then (0 : Int64) else (1 : Int64)))), .second, .val (.int (1 : Int32)), .unset, .unset, .unset, .unset] [])
    refine own_st T6 (mkF m_ 153 #[.val (.int flags), .val (.long line), .second, .val (.int (if (flags &&& (1 : Int32)) = (0 : Int32) then (0 : Int32) else 1)), .val (.int (if (flags &&& (2 : Int32)) = (0 : Int32) then (0 : Int32) else 1)), .val (.int (if (flags &&& (4 : Int32)) = (0 : Int32) then (0 : Int32) else 1)), .val (.int (if (flags &&& (8 : Int32)) = (0 : Int32) then (0 : Int32) else 1)), .val (.ref b1), .val (.long (0 : Int64)), .second, .val (.long (if (flags &&& (1 : Int32)) = (0 : Int32) then (0 : Int64) else (1 : Int64))), .second, .val (.long ((1 : Int64) - (if (flags &&& (1 : Int32)) = (0 : Int32) then (0 : Int64) else (1 : Int64)))), .second, .val (.int (1 : Int32)), .unset, .unset, .unset, .unset] [(.int (if (flags &&& (4 : Int32)) = (0 : Int32) then (0 : Int32) else 1)), (.ref b1)]) (fun t_ k_ => ?_) ?_
    · refine XS.aload X6.here hx rfl (hb hby at_149) rfl rfl ?_
      show Steps p_.tables e_ below (T6.setTop (mkF m_ 151 #[.val (.int flags), .val (.long line), .second, .val (.int (if (flags &&& (1 : Int32)) = (0 : Int32) then (0 : Int32) else 1)), .val (.int (if (flags &&& (2 : Int32)) = (0 : Int32) then (0 : Int32) else 1)), .val (.int (if (flags &&& (4 : Int32)) = (0 : Int32) then (0 : Int32) else 1)), .val (.int (if (flags &&& (8 : Int32)) = (0 : Int32) then (0 : Int32) else 1)), .val (.ref b1), .val (.long (0 : Int64)), .second, .val (.long (if (flags &&& (1 : Int32)) = (0 : Int32) then (0 : Int64) else (1 : Int64))), .second, .val (.long ((1 : Int64) - (if (flags &&& (1 : Int32)) = (0 : Int32) then (0 : Int64) else (1 : Int64)))), .second, .val (.int (1 : Int32)), .unset, .unset, .unset, .unset] [(.ref b1)])) t_
      refine XS.iload X6.here hx rfl (hb hby at_151) rfl ?_
      show Steps p_.tables e_ below (T6.setTop (mkF m_ 153 #[.val (.int flags), .val (.long line), .second, .val (.int (if (flags &&& (1 : Int32)) = (0 : Int32) then (0 : Int32) else 1)), .val (.int (if (flags &&& (2 : Int32)) = (0 : Int32) then (0 : Int32) else 1)), .val (.int (if (flags &&& (4 : Int32)) = (0 : Int32) then (0 : Int32) else 1)), .val (.int (if (flags &&& (8 : Int32)) = (0 : Int32) then (0 : Int32) else 1)), .val (.ref b1), .val (.long (0 : Int64)), .second, .val (.long (if (flags &&& (1 : Int32)) = (0 : Int32) then (0 : Int64) else (1 : Int64))), .second, .val (.long ((1 : Int64) - (if (flags &&& (1 : Int32)) = (0 : Int32) then (0 : Int64) else (1 : Int64)))), .second, .val (.int (1 : Int32)), .unset, .unset, .unset, .unset] [(.int (if (flags &&& (4 : Int32)) = (0 : Int32) then (0 : Int32) else 1)), (.ref b1)])) t_
      exact k_
    refine own_callV X6 hx hZ (y := (⟨"com/example/keep_count/keepcount/api/BatchResult", "checked", "(Z)V"⟩ : MethodName)) (z := (⟨"com/example/keep_count/keepcount/api/BatchResult", "checked", "(Z)V"⟩ : MethodName)) hown (hw _ (List.mem_of_getElem? (i := 35) rfl)) (hw _ (List.mem_of_getElem? (i := 36) rfl)) (notFace_of_selects (args := #[]) (mvT hZ (hw _ (List.mem_of_getElem? (i := 38) rfl)))) (hw _ (List.mem_of_getElem? (i := 38) rfl)) (hw _ (List.mem_of_getElem? (i := 37) rfl)) (hw _ (List.mem_of_getElem? (i := 2) rfl)) (hw _ (List.mem_of_getElem? (i := 39) rfl)) (by decide) b1 [(.int (if (flags &&& (4 : Int32)) = (0 : Int32) then (0 : Int32) else 1))] [] E_b1 (rm6 l Z a0 hw b1 (if (flags &&& (4 : Int32)) = (0 : Int32) then (0 : Int32) else 1) (own_al (if (flags &&& (2 : Int32)) = (0 : Int32) then (0 : Int32) else 1) (own_al (if (flags &&& (1 : Int32)) = (0 : Int32) then (0 : Int32) else 1) (0 : Int64))) (own_de (if (flags &&& (2 : Int32)) = (0 : Int32) then (0 : Int32) else 1) (own_de (if (flags &&& (1 : Int32)) = (0 : Int32) then (0 : Int32) else 1) (0 : Int64))) (0 : Int64) T6.heap n0 Z0 F_allowed_b1 F_denied_b1 F_rejected_b1 E_b1 g_b1) 0 (by decide) (by decide) rfl (by rw [hml]; rfl) (lenOf own_pd11 rfl) rfl (Nat.le_of_eq rfl) (hb hby at_153) (by decide) (by decide) ?_
    intro v7 T7 L7 X7 q7
    obtain ⟨rfl, N7q, K7, Fq1, Fq2, Fq3⟩ := q7
    have N7 := Fr.app N6 N7q
    replace E_b1 := E_b1.keep K7
    -- F_allowed_b1 is dropped: written by the callee
    -- F_denied_b1 is dropped: written by the callee
    -- F_rejected_b1 is dropped: written by the callee
    replace Z0 : n0 ≤ T7.heap.size := Nat.le_trans Z0 K7.1
    have F_allowed_b1 := Fq1
    have F_denied_b1 := Fq2
    have F_rejected_b1 := Fq3
    show own_Out p_ e_ below s_ _ _ _ T7 (mkF m_ 156 #[.val (.int flags), .val (.long line), .second, .val (.int (if (flags &&& (1 : Int32)) = (0 : Int32) then (0 : Int32) else 1)), .val (.int (if (flags &&& (2 : Int32)) = (0 : Int32) then (0 : Int32) else 1)), .val (.int (if (flags &&& (4 : Int32)) = (0 : Int32) then (0 : Int32) else 1)), .val (.int (if (flags &&& (8 : Int32)) = (0 : Int32) then (0 : Int32) else 1)), .val (.ref b1), .val (.long (0 : Int64)), .second, .val (.long (if (flags &&& (1 : Int32)) = (0 : Int32) then (0 : Int64) else (1 : Int64))), .second, .val (.long ((1 : Int64) - (if (flags &&& (1 : Int32)) = (0 : Int32) then (0 : Int64) else (1 : Int64)))), .second, .val (.int (1 : Int32)), .unset, .unset, .unset, .unset] [])
    refine own_st T7 (mkF m_ 197 #[.val (.int flags), .val (.long line), .second, .val (.int (if (flags &&& (1 : Int32)) = (0 : Int32) then (0 : Int32) else 1)), .val (.int (if (flags &&& (2 : Int32)) = (0 : Int32) then (0 : Int32) else 1)), .val (.int (if (flags &&& (4 : Int32)) = (0 : Int32) then (0 : Int32) else 1)), .val (.int (if (flags &&& (8 : Int32)) = (0 : Int32) then (0 : Int32) else 1)), .val (.ref b1), .val (.long (0 : Int64)), .second, .val (.long (if (flags &&& (1 : Int32)) = (0 : Int32) then (0 : Int64) else (1 : Int64))), .second, .val (.long ((1 : Int64) - (if (flags &&& (1 : Int32)) = (0 : Int32) then (0 : Int64) else (1 : Int64)))), .second, .val (.int (1 : Int32)), .val (.long (((if (flags &&& (1 : Int32)) = (0 : Int32) then (0 : Int64) else (1 : Int64)) + (if (flags &&& (2 : Int32)) = (0 : Int32) then (0 : Int64) else (1 : Int64))) + (if (flags &&& (4 : Int32)) = (0 : Int32) then (0 : Int64) else (1 : Int64)))), .second, .val (.long ((3 : Int64) - (((if (flags &&& (1 : Int32)) = (0 : Int32) then (0 : Int64) else (1 : Int64)) + (if (flags &&& (2 : Int32)) = (0 : Int32) then (0 : Int64) else (1 : Int64))) + (if (flags &&& (4 : Int32)) = (0 : Int32) then (0 : Int64) else (1 : Int64))))), .second] [(.ref b1)]) (fun t_ k_ => ?_) ?_
    · refine XS.lload X7.here hx rfl (hb hby at_156) rfl ?_
      show Steps p_.tables e_ below (T7.setTop (mkF m_ 158 #[.val (.int flags), .val (.long line), .second, .val (.int (if (flags &&& (1 : Int32)) = (0 : Int32) then (0 : Int32) else 1)), .val (.int (if (flags &&& (2 : Int32)) = (0 : Int32) then (0 : Int32) else 1)), .val (.int (if (flags &&& (4 : Int32)) = (0 : Int32) then (0 : Int32) else 1)), .val (.int (if (flags &&& (8 : Int32)) = (0 : Int32) then (0 : Int32) else 1)), .val (.ref b1), .val (.long (0 : Int64)), .second, .val (.long (if (flags &&& (1 : Int32)) = (0 : Int32) then (0 : Int64) else (1 : Int64))), .second, .val (.long ((1 : Int64) - (if (flags &&& (1 : Int32)) = (0 : Int32) then (0 : Int64) else (1 : Int64)))), .second, .val (.int (1 : Int32)), .unset, .unset, .unset, .unset] [(.long (if (flags &&& (1 : Int32)) = (0 : Int32) then (0 : Int64) else (1 : Int64)))])) t_
      refine XS.iload X7.here hx rfl (hb hby at_158) rfl ?_
      show Steps p_.tables e_ below (T7.setTop (mkF m_ 160 #[.val (.int flags), .val (.long line), .second, .val (.int (if (flags &&& (1 : Int32)) = (0 : Int32) then (0 : Int32) else 1)), .val (.int (if (flags &&& (2 : Int32)) = (0 : Int32) then (0 : Int32) else 1)), .val (.int (if (flags &&& (4 : Int32)) = (0 : Int32) then (0 : Int32) else 1)), .val (.int (if (flags &&& (8 : Int32)) = (0 : Int32) then (0 : Int32) else 1)), .val (.ref b1), .val (.long (0 : Int64)), .second, .val (.long (if (flags &&& (1 : Int32)) = (0 : Int32) then (0 : Int64) else (1 : Int64))), .second, .val (.long ((1 : Int64) - (if (flags &&& (1 : Int32)) = (0 : Int32) then (0 : Int64) else (1 : Int64)))), .second, .val (.int (1 : Int32)), .unset, .unset, .unset, .unset] [(.int (if (flags &&& (2 : Int32)) = (0 : Int32) then (0 : Int32) else 1)), (.long (if (flags &&& (1 : Int32)) = (0 : Int32) then (0 : Int64) else (1 : Int64)))])) t_
      have jn160 : ∀ t_, Steps p_.tables e_ below (T7.setTop (mkF m_ 168 #[.val (.int flags), .val (.long line), .second, .val (.int (if (flags &&& (1 : Int32)) = (0 : Int32) then (0 : Int32) else 1)), .val (.int (if (flags &&& (2 : Int32)) = (0 : Int32) then (0 : Int32) else 1)), .val (.int (if (flags &&& (4 : Int32)) = (0 : Int32) then (0 : Int32) else 1)), .val (.int (if (flags &&& (8 : Int32)) = (0 : Int32) then (0 : Int32) else 1)), .val (.ref b1), .val (.long (0 : Int64)), .second, .val (.long (if (flags &&& (1 : Int32)) = (0 : Int32) then (0 : Int64) else (1 : Int64))), .second, .val (.long ((1 : Int64) - (if (flags &&& (1 : Int32)) = (0 : Int32) then (0 : Int64) else (1 : Int64)))), .second, .val (.int (1 : Int32)), .unset, .unset, .unset, .unset] [(.long (if (flags &&& (2 : Int32)) = (0 : Int32) then (0 : Int64) else (1 : Int64))), (.long (if (flags &&& (1 : Int32)) = (0 : Int32) then (0 : Int64) else (1 : Int64)))])) t_ → Steps p_.tables e_ below (T7.setTop (mkF m_ 160 #[.val (.int flags), .val (.long line), .second, .val (.int (if (flags &&& (1 : Int32)) = (0 : Int32) then (0 : Int32) else 1)), .val (.int (if (flags &&& (2 : Int32)) = (0 : Int32) then (0 : Int32) else 1)), .val (.int (if (flags &&& (4 : Int32)) = (0 : Int32) then (0 : Int32) else 1)), .val (.int (if (flags &&& (8 : Int32)) = (0 : Int32) then (0 : Int32) else 1)), .val (.ref b1), .val (.long (0 : Int64)), .second, .val (.long (if (flags &&& (1 : Int32)) = (0 : Int32) then (0 : Int64) else (1 : Int64))), .second, .val (.long ((1 : Int64) - (if (flags &&& (1 : Int32)) = (0 : Int32) then (0 : Int64) else (1 : Int64)))), .second, .val (.int (1 : Int32)), .unset, .unset, .unset, .unset] [(.int (if (flags &&& (2 : Int32)) = (0 : Int32) then (0 : Int32) else 1)), (.long (if (flags &&& (1 : Int32)) = (0 : Int32) then (0 : Int64) else (1 : Int64)))])) t_ := by
        intro t_ k_
        by_cases hc160 : (flags &&& (2 : Int32)) = (0 : Int32)
        · refine XS.ifYes X7.here hx rfl (pc0 := 160) (pc' := 167) rfl (hb hby at_160) rfl ((if0 _ _).trans (teq (own_nt hc160)).1) (by decide) (by decide) ?_
          show Steps p_.tables e_ below (T7.setTop (mkF m_ 167 #[.val (.int flags), .val (.long line), .second, .val (.int (if (flags &&& (1 : Int32)) = (0 : Int32) then (0 : Int32) else 1)), .val (.int (if (flags &&& (2 : Int32)) = (0 : Int32) then (0 : Int32) else 1)), .val (.int (if (flags &&& (4 : Int32)) = (0 : Int32) then (0 : Int32) else 1)), .val (.int (if (flags &&& (8 : Int32)) = (0 : Int32) then (0 : Int32) else 1)), .val (.ref b1), .val (.long (0 : Int64)), .second, .val (.long (if (flags &&& (1 : Int32)) = (0 : Int32) then (0 : Int64) else (1 : Int64))), .second, .val (.long ((1 : Int64) - (if (flags &&& (1 : Int32)) = (0 : Int32) then (0 : Int64) else (1 : Int64)))), .second, .val (.int (1 : Int32)), .unset, .unset, .unset, .unset] [(.long (if (flags &&& (1 : Int32)) = (0 : Int32) then (0 : Int64) else (1 : Int64)))])) t_
          refine XS.lconst X7.here hx rfl (hb hby at_167) ?_
          show Steps p_.tables e_ below (T7.setTop (mkF m_ 168 #[.val (.int flags), .val (.long line), .second, .val (.int (if (flags &&& (1 : Int32)) = (0 : Int32) then (0 : Int32) else 1)), .val (.int (if (flags &&& (2 : Int32)) = (0 : Int32) then (0 : Int32) else 1)), .val (.int (if (flags &&& (4 : Int32)) = (0 : Int32) then (0 : Int32) else 1)), .val (.int (if (flags &&& (8 : Int32)) = (0 : Int32) then (0 : Int32) else 1)), .val (.ref b1), .val (.long (0 : Int64)), .second, .val (.long (if (flags &&& (1 : Int32)) = (0 : Int32) then (0 : Int64) else (1 : Int64))), .second, .val (.long ((1 : Int64) - (if (flags &&& (1 : Int32)) = (0 : Int32) then (0 : Int64) else (1 : Int64)))), .second, .val (.int (1 : Int32)), .unset, .unset, .unset, .unset] [(.long (0 : Int64)), (.long (if (flags &&& (1 : Int32)) = (0 : Int32) then (0 : Int64) else (1 : Int64)))])) t_
          simp only [if_pos hc160] at k_ ⊢
          exact k_
        · refine XS.ifNo X7.here hx rfl (hb hby at_160) rfl ((if0 _ _).trans (feq (own_nf hc160)).1) ?_
          show Steps p_.tables e_ below (T7.setTop (mkF m_ 163 #[.val (.int flags), .val (.long line), .second, .val (.int (if (flags &&& (1 : Int32)) = (0 : Int32) then (0 : Int32) else 1)), .val (.int (if (flags &&& (2 : Int32)) = (0 : Int32) then (0 : Int32) else 1)), .val (.int (if (flags &&& (4 : Int32)) = (0 : Int32) then (0 : Int32) else 1)), .val (.int (if (flags &&& (8 : Int32)) = (0 : Int32) then (0 : Int32) else 1)), .val (.ref b1), .val (.long (0 : Int64)), .second, .val (.long (if (flags &&& (1 : Int32)) = (0 : Int32) then (0 : Int64) else (1 : Int64))), .second, .val (.long ((1 : Int64) - (if (flags &&& (1 : Int32)) = (0 : Int32) then (0 : Int64) else (1 : Int64)))), .second, .val (.int (1 : Int32)), .unset, .unset, .unset, .unset] [(.long (if (flags &&& (1 : Int32)) = (0 : Int32) then (0 : Int64) else (1 : Int64)))])) t_
          refine XS.lconst X7.here hx rfl (hb hby at_163) ?_
          show Steps p_.tables e_ below (T7.setTop (mkF m_ 164 #[.val (.int flags), .val (.long line), .second, .val (.int (if (flags &&& (1 : Int32)) = (0 : Int32) then (0 : Int32) else 1)), .val (.int (if (flags &&& (2 : Int32)) = (0 : Int32) then (0 : Int32) else 1)), .val (.int (if (flags &&& (4 : Int32)) = (0 : Int32) then (0 : Int32) else 1)), .val (.int (if (flags &&& (8 : Int32)) = (0 : Int32) then (0 : Int32) else 1)), .val (.ref b1), .val (.long (0 : Int64)), .second, .val (.long (if (flags &&& (1 : Int32)) = (0 : Int32) then (0 : Int64) else (1 : Int64))), .second, .val (.long ((1 : Int64) - (if (flags &&& (1 : Int32)) = (0 : Int32) then (0 : Int64) else (1 : Int64)))), .second, .val (.int (1 : Int32)), .unset, .unset, .unset, .unset] [(.long (1 : Int64)), (.long (if (flags &&& (1 : Int32)) = (0 : Int32) then (0 : Int64) else (1 : Int64)))])) t_
          refine XS.goto X7.here hx rfl (pc0 := 164) (pc' := 168) rfl (hb hby at_164) (by decide) (by decide) ?_
          show Steps p_.tables e_ below (T7.setTop (mkF m_ 168 #[.val (.int flags), .val (.long line), .second, .val (.int (if (flags &&& (1 : Int32)) = (0 : Int32) then (0 : Int32) else 1)), .val (.int (if (flags &&& (2 : Int32)) = (0 : Int32) then (0 : Int32) else 1)), .val (.int (if (flags &&& (4 : Int32)) = (0 : Int32) then (0 : Int32) else 1)), .val (.int (if (flags &&& (8 : Int32)) = (0 : Int32) then (0 : Int32) else 1)), .val (.ref b1), .val (.long (0 : Int64)), .second, .val (.long (if (flags &&& (1 : Int32)) = (0 : Int32) then (0 : Int64) else (1 : Int64))), .second, .val (.long ((1 : Int64) - (if (flags &&& (1 : Int32)) = (0 : Int32) then (0 : Int64) else (1 : Int64)))), .second, .val (.int (1 : Int32)), .unset, .unset, .unset, .unset] [(.long (1 : Int64)), (.long (if (flags &&& (1 : Int32)) = (0 : Int32) then (0 : Int64) else (1 : Int64)))])) t_
          simp only [if_neg hc160] at k_ ⊢
          exact k_
      refine jn160 _ ?_
      show Steps p_.tables e_ below (T7.setTop (mkF m_ 168 #[.val (.int flags), .val (.long line), .second, .val (.int (if (flags &&& (1 : Int32)) = (0 : Int32) then (0 : Int32) else 1)), .val (.int (if (flags &&& (2 : Int32)) = (0 : Int32) then (0 : Int32) else 1)), .val (.int (if (flags &&& (4 : Int32)) = (0 : Int32) then (0 : Int32) else 1)), .val (.int (if (flags &&& (8 : Int32)) = (0 : Int32) then (0 : Int32) else 1)), .val (.ref b1), .val (.long (0 : Int64)), .second, .val (.long (if (flags &&& (1 : Int32)) = (0 : Int32) then (0 : Int64) else (1 : Int64))), .second, .val (.long ((1 : Int64) - (if (flags &&& (1 : Int32)) = (0 : Int32) then (0 : Int64) else (1 : Int64)))), .second, .val (.int (1 : Int32)), .unset, .unset, .unset, .unset] [(.long (if (flags &&& (2 : Int32)) = (0 : Int32) then (0 : Int64) else (1 : Int64))), (.long (if (flags &&& (1 : Int32)) = (0 : Int32) then (0 : Int64) else (1 : Int64)))])) t_
      refine XS.ladd X7.here hx rfl (hb hby at_168) rfl ?_
      show Steps p_.tables e_ below (T7.setTop (mkF m_ 169 #[.val (.int flags), .val (.long line), .second, .val (.int (if (flags &&& (1 : Int32)) = (0 : Int32) then (0 : Int32) else 1)), .val (.int (if (flags &&& (2 : Int32)) = (0 : Int32) then (0 : Int32) else 1)), .val (.int (if (flags &&& (4 : Int32)) = (0 : Int32) then (0 : Int32) else 1)), .val (.int (if (flags &&& (8 : Int32)) = (0 : Int32) then (0 : Int32) else 1)), .val (.ref b1), .val (.long (0 : Int64)), .second, .val (.long (if (flags &&& (1 : Int32)) = (0 : Int32) then (0 : Int64) else (1 : Int64))), .second, .val (.long ((1 : Int64) - (if (flags &&& (1 : Int32)) = (0 : Int32) then (0 : Int64) else (1 : Int64)))), .second, .val (.int (1 : Int32)), .unset, .unset, .unset, .unset] [(.long ((if (flags &&& (1 : Int32)) = (0 : Int32) then (0 : Int64) else (1 : Int64)) + (if (flags &&& (2 : Int32)) = (0 : Int32) then (0 : Int64) else (1 : Int64))))])) t_
      refine XS.iload X7.here hx rfl (hb hby at_169) rfl ?_
      show Steps p_.tables e_ below (T7.setTop (mkF m_ 171 #[.val (.int flags), .val (.long line), .second, .val (.int (if (flags &&& (1 : Int32)) = (0 : Int32) then (0 : Int32) else 1)), .val (.int (if (flags &&& (2 : Int32)) = (0 : Int32) then (0 : Int32) else 1)), .val (.int (if (flags &&& (4 : Int32)) = (0 : Int32) then (0 : Int32) else 1)), .val (.int (if (flags &&& (8 : Int32)) = (0 : Int32) then (0 : Int32) else 1)), .val (.ref b1), .val (.long (0 : Int64)), .second, .val (.long (if (flags &&& (1 : Int32)) = (0 : Int32) then (0 : Int64) else (1 : Int64))), .second, .val (.long ((1 : Int64) - (if (flags &&& (1 : Int32)) = (0 : Int32) then (0 : Int64) else (1 : Int64)))), .second, .val (.int (1 : Int32)), .unset, .unset, .unset, .unset] [(.int (if (flags &&& (4 : Int32)) = (0 : Int32) then (0 : Int32) else 1)), (.long ((if (flags &&& (1 : Int32)) = (0 : Int32) then (0 : Int64) else (1 : Int64)) + (if (flags &&& (2 : Int32)) = (0 : Int32) then (0 : Int64) else (1 : Int64))))])) t_
      have jn171 : ∀ t_, Steps p_.tables e_ below (T7.setTop (mkF m_ 179 #[.val (.int flags), .val (.long line), .second, .val (.int (if (flags &&& (1 : Int32)) = (0 : Int32) then (0 : Int32) else 1)), .val (.int (if (flags &&& (2 : Int32)) = (0 : Int32) then (0 : Int32) else 1)), .val (.int (if (flags &&& (4 : Int32)) = (0 : Int32) then (0 : Int32) else 1)), .val (.int (if (flags &&& (8 : Int32)) = (0 : Int32) then (0 : Int32) else 1)), .val (.ref b1), .val (.long (0 : Int64)), .second, .val (.long (if (flags &&& (1 : Int32)) = (0 : Int32) then (0 : Int64) else (1 : Int64))), .second, .val (.long ((1 : Int64) - (if (flags &&& (1 : Int32)) = (0 : Int32) then (0 : Int64) else (1 : Int64)))), .second, .val (.int (1 : Int32)), .unset, .unset, .unset, .unset] [(.long (if (flags &&& (4 : Int32)) = (0 : Int32) then (0 : Int64) else (1 : Int64))), (.long ((if (flags &&& (1 : Int32)) = (0 : Int32) then (0 : Int64) else (1 : Int64)) + (if (flags &&& (2 : Int32)) = (0 : Int32) then (0 : Int64) else (1 : Int64))))])) t_ → Steps p_.tables e_ below (T7.setTop (mkF m_ 171 #[.val (.int flags), .val (.long line), .second, .val (.int (if (flags &&& (1 : Int32)) = (0 : Int32) then (0 : Int32) else 1)), .val (.int (if (flags &&& (2 : Int32)) = (0 : Int32) then (0 : Int32) else 1)), .val (.int (if (flags &&& (4 : Int32)) = (0 : Int32) then (0 : Int32) else 1)), .val (.int (if (flags &&& (8 : Int32)) = (0 : Int32) then (0 : Int32) else 1)), .val (.ref b1), .val (.long (0 : Int64)), .second, .val (.long (if (flags &&& (1 : Int32)) = (0 : Int32) then (0 : Int64) else (1 : Int64))), .second, .val (.long ((1 : Int64) - (if (flags &&& (1 : Int32)) = (0 : Int32) then (0 : Int64) else (1 : Int64)))), .second, .val (.int (1 : Int32)), .unset, .unset, .unset, .unset] [(.int (if (flags &&& (4 : Int32)) = (0 : Int32) then (0 : Int32) else 1)), (.long ((if (flags &&& (1 : Int32)) = (0 : Int32) then (0 : Int64) else (1 : Int64)) + (if (flags &&& (2 : Int32)) = (0 : Int32) then (0 : Int64) else (1 : Int64))))])) t_ := by
        intro t_ k_
        by_cases hc171 : (flags &&& (4 : Int32)) = (0 : Int32)
        · refine XS.ifYes X7.here hx rfl (pc0 := 171) (pc' := 178) rfl (hb hby at_171) rfl ((if0 _ _).trans (teq (own_nt hc171)).1) (by decide) (by decide) ?_
          show Steps p_.tables e_ below (T7.setTop (mkF m_ 178 #[.val (.int flags), .val (.long line), .second, .val (.int (if (flags &&& (1 : Int32)) = (0 : Int32) then (0 : Int32) else 1)), .val (.int (if (flags &&& (2 : Int32)) = (0 : Int32) then (0 : Int32) else 1)), .val (.int (if (flags &&& (4 : Int32)) = (0 : Int32) then (0 : Int32) else 1)), .val (.int (if (flags &&& (8 : Int32)) = (0 : Int32) then (0 : Int32) else 1)), .val (.ref b1), .val (.long (0 : Int64)), .second, .val (.long (if (flags &&& (1 : Int32)) = (0 : Int32) then (0 : Int64) else (1 : Int64))), .second, .val (.long ((1 : Int64) - (if (flags &&& (1 : Int32)) = (0 : Int32) then (0 : Int64) else (1 : Int64)))), .second, .val (.int (1 : Int32)), .unset, .unset, .unset, .unset] [(.long ((if (flags &&& (1 : Int32)) = (0 : Int32) then (0 : Int64) else (1 : Int64)) + (if (flags &&& (2 : Int32)) = (0 : Int32) then (0 : Int64) else (1 : Int64))))])) t_
          refine XS.lconst X7.here hx rfl (hb hby at_178) ?_
          show Steps p_.tables e_ below (T7.setTop (mkF m_ 179 #[.val (.int flags), .val (.long line), .second, .val (.int (if (flags &&& (1 : Int32)) = (0 : Int32) then (0 : Int32) else 1)), .val (.int (if (flags &&& (2 : Int32)) = (0 : Int32) then (0 : Int32) else 1)), .val (.int (if (flags &&& (4 : Int32)) = (0 : Int32) then (0 : Int32) else 1)), .val (.int (if (flags &&& (8 : Int32)) = (0 : Int32) then (0 : Int32) else 1)), .val (.ref b1), .val (.long (0 : Int64)), .second, .val (.long (if (flags &&& (1 : Int32)) = (0 : Int32) then (0 : Int64) else (1 : Int64))), .second, .val (.long ((1 : Int64) - (if (flags &&& (1 : Int32)) = (0 : Int32) then (0 : Int64) else (1 : Int64)))), .second, .val (.int (1 : Int32)), .unset, .unset, .unset, .unset] [(.long (0 : Int64)), (.long ((if (flags &&& (1 : Int32)) = (0 : Int32) then (0 : Int64) else (1 : Int64)) + (if (flags &&& (2 : Int32)) = (0 : Int32) then (0 : Int64) else (1 : Int64))))])) t_
          simp only [if_pos hc171] at k_ ⊢
          exact k_
        · refine XS.ifNo X7.here hx rfl (hb hby at_171) rfl ((if0 _ _).trans (feq (own_nf hc171)).1) ?_
          show Steps p_.tables e_ below (T7.setTop (mkF m_ 174 #[.val (.int flags), .val (.long line), .second, .val (.int (if (flags &&& (1 : Int32)) = (0 : Int32) then (0 : Int32) else 1)), .val (.int (if (flags &&& (2 : Int32)) = (0 : Int32) then (0 : Int32) else 1)), .val (.int (if (flags &&& (4 : Int32)) = (0 : Int32) then (0 : Int32) else 1)), .val (.int (if (flags &&& (8 : Int32)) = (0 : Int32) then (0 : Int32) else 1)), .val (.ref b1), .val (.long (0 : Int64)), .second, .val (.long (if (flags &&& (1 : Int32)) = (0 : Int32) then (0 : Int64) else (1 : Int64))), .second, .val (.long ((1 : Int64) - (if (flags &&& (1 : Int32)) = (0 : Int32) then (0 : Int64) else (1 : Int64)))), .second, .val (.int (1 : Int32)), .unset, .unset, .unset, .unset] [(.long ((if (flags &&& (1 : Int32)) = (0 : Int32) then (0 : Int64) else (1 : Int64)) + (if (flags &&& (2 : Int32)) = (0 : Int32) then (0 : Int64) else (1 : Int64))))])) t_
          refine XS.lconst X7.here hx rfl (hb hby at_174) ?_
          show Steps p_.tables e_ below (T7.setTop (mkF m_ 175 #[.val (.int flags), .val (.long line), .second, .val (.int (if (flags &&& (1 : Int32)) = (0 : Int32) then (0 : Int32) else 1)), .val (.int (if (flags &&& (2 : Int32)) = (0 : Int32) then (0 : Int32) else 1)), .val (.int (if (flags &&& (4 : Int32)) = (0 : Int32) then (0 : Int32) else 1)), .val (.int (if (flags &&& (8 : Int32)) = (0 : Int32) then (0 : Int32) else 1)), .val (.ref b1), .val (.long (0 : Int64)), .second, .val (.long (if (flags &&& (1 : Int32)) = (0 : Int32) then (0 : Int64) else (1 : Int64))), .second, .val (.long ((1 : Int64) - (if (flags &&& (1 : Int32)) = (0 : Int32) then (0 : Int64) else (1 : Int64)))), .second, .val (.int (1 : Int32)), .unset, .unset, .unset, .unset] [(.long (1 : Int64)), (.long ((if (flags &&& (1 : Int32)) = (0 : Int32) then (0 : Int64) else (1 : Int64)) + (if (flags &&& (2 : Int32)) = (0 : Int32) then (0 : Int64) else (1 : Int64))))])) t_
          refine XS.goto X7.here hx rfl (pc0 := 175) (pc' := 179) rfl (hb hby at_175) (by decide) (by decide) ?_
          show Steps p_.tables e_ below (T7.setTop (mkF m_ 179 #[.val (.int flags), .val (.long line), .second, .val (.int (if (flags &&& (1 : Int32)) = (0 : Int32) then (0 : Int32) else 1)), .val (.int (if (flags &&& (2 : Int32)) = (0 : Int32) then (0 : Int32) else 1)), .val (.int (if (flags &&& (4 : Int32)) = (0 : Int32) then (0 : Int32) else 1)), .val (.int (if (flags &&& (8 : Int32)) = (0 : Int32) then (0 : Int32) else 1)), .val (.ref b1), .val (.long (0 : Int64)), .second, .val (.long (if (flags &&& (1 : Int32)) = (0 : Int32) then (0 : Int64) else (1 : Int64))), .second, .val (.long ((1 : Int64) - (if (flags &&& (1 : Int32)) = (0 : Int32) then (0 : Int64) else (1 : Int64)))), .second, .val (.int (1 : Int32)), .unset, .unset, .unset, .unset] [(.long (1 : Int64)), (.long ((if (flags &&& (1 : Int32)) = (0 : Int32) then (0 : Int64) else (1 : Int64)) + (if (flags &&& (2 : Int32)) = (0 : Int32) then (0 : Int64) else (1 : Int64))))])) t_
          simp only [if_neg hc171] at k_ ⊢
          exact k_
      refine jn171 _ ?_
      show Steps p_.tables e_ below (T7.setTop (mkF m_ 179 #[.val (.int flags), .val (.long line), .second, .val (.int (if (flags &&& (1 : Int32)) = (0 : Int32) then (0 : Int32) else 1)), .val (.int (if (flags &&& (2 : Int32)) = (0 : Int32) then (0 : Int32) else 1)), .val (.int (if (flags &&& (4 : Int32)) = (0 : Int32) then (0 : Int32) else 1)), .val (.int (if (flags &&& (8 : Int32)) = (0 : Int32) then (0 : Int32) else 1)), .val (.ref b1), .val (.long (0 : Int64)), .second, .val (.long (if (flags &&& (1 : Int32)) = (0 : Int32) then (0 : Int64) else (1 : Int64))), .second, .val (.long ((1 : Int64) - (if (flags &&& (1 : Int32)) = (0 : Int32) then (0 : Int64) else (1 : Int64)))), .second, .val (.int (1 : Int32)), .unset, .unset, .unset, .unset] [(.long (if (flags &&& (4 : Int32)) = (0 : Int32) then (0 : Int64) else (1 : Int64))), (.long ((if (flags &&& (1 : Int32)) = (0 : Int32) then (0 : Int64) else (1 : Int64)) + (if (flags &&& (2 : Int32)) = (0 : Int32) then (0 : Int64) else (1 : Int64))))])) t_
      refine XS.ladd X7.here hx rfl (hb hby at_179) rfl ?_
      show Steps p_.tables e_ below (T7.setTop (mkF m_ 180 #[.val (.int flags), .val (.long line), .second, .val (.int (if (flags &&& (1 : Int32)) = (0 : Int32) then (0 : Int32) else 1)), .val (.int (if (flags &&& (2 : Int32)) = (0 : Int32) then (0 : Int32) else 1)), .val (.int (if (flags &&& (4 : Int32)) = (0 : Int32) then (0 : Int32) else 1)), .val (.int (if (flags &&& (8 : Int32)) = (0 : Int32) then (0 : Int32) else 1)), .val (.ref b1), .val (.long (0 : Int64)), .second, .val (.long (if (flags &&& (1 : Int32)) = (0 : Int32) then (0 : Int64) else (1 : Int64))), .second, .val (.long ((1 : Int64) - (if (flags &&& (1 : Int32)) = (0 : Int32) then (0 : Int64) else (1 : Int64)))), .second, .val (.int (1 : Int32)), .unset, .unset, .unset, .unset] [(.long (((if (flags &&& (1 : Int32)) = (0 : Int32) then (0 : Int64) else (1 : Int64)) + (if (flags &&& (2 : Int32)) = (0 : Int32) then (0 : Int64) else (1 : Int64))) + (if (flags &&& (4 : Int32)) = (0 : Int32) then (0 : Int64) else (1 : Int64))))])) t_
      refine XS.lstore X7.here hx rfl (hb hby at_180) rfl (l' := #[.val (.int flags), .val (.long line), .second, .val (.int (if (flags &&& (1 : Int32)) = (0 : Int32) then (0 : Int32) else 1)), .val (.int (if (flags &&& (2 : Int32)) = (0 : Int32) then (0 : Int32) else 1)), .val (.int (if (flags &&& (4 : Int32)) = (0 : Int32) then (0 : Int32) else 1)), .val (.int (if (flags &&& (8 : Int32)) = (0 : Int32) then (0 : Int32) else 1)), .val (.ref b1), .val (.long (0 : Int64)), .second, .val (.long (if (flags &&& (1 : Int32)) = (0 : Int32) then (0 : Int64) else (1 : Int64))), .second, .val (.long ((1 : Int64) - (if (flags &&& (1 : Int32)) = (0 : Int32) then (0 : Int64) else (1 : Int64)))), .second, .val (.int (1 : Int32)), .val (.long (((if (flags &&& (1 : Int32)) = (0 : Int32) then (0 : Int64) else (1 : Int64)) + (if (flags &&& (2 : Int32)) = (0 : Int32) then (0 : Int64) else (1 : Int64))) + (if (flags &&& (4 : Int32)) = (0 : Int32) then (0 : Int64) else (1 : Int64)))), .second, .unset, .unset]) rfl ?_
      show Steps p_.tables e_ below (T7.setTop (mkF m_ 182 #[.val (.int flags), .val (.long line), .second, .val (.int (if (flags &&& (1 : Int32)) = (0 : Int32) then (0 : Int32) else 1)), .val (.int (if (flags &&& (2 : Int32)) = (0 : Int32) then (0 : Int32) else 1)), .val (.int (if (flags &&& (4 : Int32)) = (0 : Int32) then (0 : Int32) else 1)), .val (.int (if (flags &&& (8 : Int32)) = (0 : Int32) then (0 : Int32) else 1)), .val (.ref b1), .val (.long (0 : Int64)), .second, .val (.long (if (flags &&& (1 : Int32)) = (0 : Int32) then (0 : Int64) else (1 : Int64))), .second, .val (.long ((1 : Int64) - (if (flags &&& (1 : Int32)) = (0 : Int32) then (0 : Int64) else (1 : Int64)))), .second, .val (.int (1 : Int32)), .val (.long (((if (flags &&& (1 : Int32)) = (0 : Int32) then (0 : Int64) else (1 : Int64)) + (if (flags &&& (2 : Int32)) = (0 : Int32) then (0 : Int64) else (1 : Int64))) + (if (flags &&& (4 : Int32)) = (0 : Int32) then (0 : Int64) else (1 : Int64)))), .second, .unset, .unset] [])) t_
      refine X7.ldc2Long hx hown (mvT hZ (hw _ (List.mem_of_getElem? (i := 54) rfl))) (g := (mkF m_ 182 #[.val (.int flags), .val (.long line), .second, .val (.int (if (flags &&& (1 : Int32)) = (0 : Int32) then (0 : Int32) else 1)), .val (.int (if (flags &&& (2 : Int32)) = (0 : Int32) then (0 : Int32) else 1)), .val (.int (if (flags &&& (4 : Int32)) = (0 : Int32) then (0 : Int32) else 1)), .val (.int (if (flags &&& (8 : Int32)) = (0 : Int32) then (0 : Int32) else 1)), .val (.ref b1), .val (.long (0 : Int64)), .second, .val (.long (if (flags &&& (1 : Int32)) = (0 : Int32) then (0 : Int64) else (1 : Int64))), .second, .val (.long ((1 : Int64) - (if (flags &&& (1 : Int32)) = (0 : Int32) then (0 : Int64) else (1 : Int64)))), .second, .val (.int (1 : Int32)), .val (.long (((if (flags &&& (1 : Int32)) = (0 : Int32) then (0 : Int64) else (1 : Int64)) + (if (flags &&& (2 : Int32)) = (0 : Int32) then (0 : Int64) else (1 : Int64))) + (if (flags &&& (4 : Int32)) = (0 : Int32) then (0 : Int64) else (1 : Int64)))), .second, .unset, .unset] [])) rfl (hb hby at_182) _ ?_
      show Steps p_.tables e_ below (T7.setTop (mkF m_ 185 #[.val (.int flags), .val (.long line), .second, .val (.int (if (flags &&& (1 : Int32)) = (0 : Int32) then (0 : Int32) else 1)), .val (.int (if (flags &&& (2 : Int32)) = (0 : Int32) then (0 : Int32) else 1)), .val (.int (if (flags &&& (4 : Int32)) = (0 : Int32) then (0 : Int32) else 1)), .val (.int (if (flags &&& (8 : Int32)) = (0 : Int32) then (0 : Int32) else 1)), .val (.ref b1), .val (.long (0 : Int64)), .second, .val (.long (if (flags &&& (1 : Int32)) = (0 : Int32) then (0 : Int64) else (1 : Int64))), .second, .val (.long ((1 : Int64) - (if (flags &&& (1 : Int32)) = (0 : Int32) then (0 : Int64) else (1 : Int64)))), .second, .val (.int (1 : Int32)), .val (.long (((if (flags &&& (1 : Int32)) = (0 : Int32) then (0 : Int64) else (1 : Int64)) + (if (flags &&& (2 : Int32)) = (0 : Int32) then (0 : Int64) else (1 : Int64))) + (if (flags &&& (4 : Int32)) = (0 : Int32) then (0 : Int64) else (1 : Int64)))), .second, .unset, .unset] [(.long (3 : Int64))])) t_
      refine XS.lload X7.here hx rfl (hb hby at_185) rfl ?_
      show Steps p_.tables e_ below (T7.setTop (mkF m_ 187 #[.val (.int flags), .val (.long line), .second, .val (.int (if (flags &&& (1 : Int32)) = (0 : Int32) then (0 : Int32) else 1)), .val (.int (if (flags &&& (2 : Int32)) = (0 : Int32) then (0 : Int32) else 1)), .val (.int (if (flags &&& (4 : Int32)) = (0 : Int32) then (0 : Int32) else 1)), .val (.int (if (flags &&& (8 : Int32)) = (0 : Int32) then (0 : Int32) else 1)), .val (.ref b1), .val (.long (0 : Int64)), .second, .val (.long (if (flags &&& (1 : Int32)) = (0 : Int32) then (0 : Int64) else (1 : Int64))), .second, .val (.long ((1 : Int64) - (if (flags &&& (1 : Int32)) = (0 : Int32) then (0 : Int64) else (1 : Int64)))), .second, .val (.int (1 : Int32)), .val (.long (((if (flags &&& (1 : Int32)) = (0 : Int32) then (0 : Int64) else (1 : Int64)) + (if (flags &&& (2 : Int32)) = (0 : Int32) then (0 : Int64) else (1 : Int64))) + (if (flags &&& (4 : Int32)) = (0 : Int32) then (0 : Int64) else (1 : Int64)))), .second, .unset, .unset] [(.long (((if (flags &&& (1 : Int32)) = (0 : Int32) then (0 : Int64) else (1 : Int64)) + (if (flags &&& (2 : Int32)) = (0 : Int32) then (0 : Int64) else (1 : Int64))) + (if (flags &&& (4 : Int32)) = (0 : Int32) then (0 : Int64) else (1 : Int64)))), (.long (3 : Int64))])) t_
      refine XS.lsub X7.here hx rfl (hb hby at_187) rfl ?_
      show Steps p_.tables e_ below (T7.setTop (mkF m_ 188 #[.val (.int flags), .val (.long line), .second, .val (.int (if (flags &&& (1 : Int32)) = (0 : Int32) then (0 : Int32) else 1)), .val (.int (if (flags &&& (2 : Int32)) = (0 : Int32) then (0 : Int32) else 1)), .val (.int (if (flags &&& (4 : Int32)) = (0 : Int32) then (0 : Int32) else 1)), .val (.int (if (flags &&& (8 : Int32)) = (0 : Int32) then (0 : Int32) else 1)), .val (.ref b1), .val (.long (0 : Int64)), .second, .val (.long (if (flags &&& (1 : Int32)) = (0 : Int32) then (0 : Int64) else (1 : Int64))), .second, .val (.long ((1 : Int64) - (if (flags &&& (1 : Int32)) = (0 : Int32) then (0 : Int64) else (1 : Int64)))), .second, .val (.int (1 : Int32)), .val (.long (((if (flags &&& (1 : Int32)) = (0 : Int32) then (0 : Int64) else (1 : Int64)) + (if (flags &&& (2 : Int32)) = (0 : Int32) then (0 : Int64) else (1 : Int64))) + (if (flags &&& (4 : Int32)) = (0 : Int32) then (0 : Int64) else (1 : Int64)))), .second, .unset, .unset] [(.long ((3 : Int64) - (((if (flags &&& (1 : Int32)) = (0 : Int32) then (0 : Int64) else (1 : Int64)) + (if (flags &&& (2 : Int32)) = (0 : Int32) then (0 : Int64) else (1 : Int64))) + (if (flags &&& (4 : Int32)) = (0 : Int32) then (0 : Int64) else (1 : Int64)))))])) t_
      refine XS.lstore X7.here hx rfl (hb hby at_188) rfl (l' := #[.val (.int flags), .val (.long line), .second, .val (.int (if (flags &&& (1 : Int32)) = (0 : Int32) then (0 : Int32) else 1)), .val (.int (if (flags &&& (2 : Int32)) = (0 : Int32) then (0 : Int32) else 1)), .val (.int (if (flags &&& (4 : Int32)) = (0 : Int32) then (0 : Int32) else 1)), .val (.int (if (flags &&& (8 : Int32)) = (0 : Int32) then (0 : Int32) else 1)), .val (.ref b1), .val (.long (0 : Int64)), .second, .val (.long (if (flags &&& (1 : Int32)) = (0 : Int32) then (0 : Int64) else (1 : Int64))), .second, .val (.long ((1 : Int64) - (if (flags &&& (1 : Int32)) = (0 : Int32) then (0 : Int64) else (1 : Int64)))), .second, .val (.int (1 : Int32)), .val (.long (((if (flags &&& (1 : Int32)) = (0 : Int32) then (0 : Int64) else (1 : Int64)) + (if (flags &&& (2 : Int32)) = (0 : Int32) then (0 : Int64) else (1 : Int64))) + (if (flags &&& (4 : Int32)) = (0 : Int32) then (0 : Int64) else (1 : Int64)))), .second, .val (.long ((3 : Int64) - (((if (flags &&& (1 : Int32)) = (0 : Int32) then (0 : Int64) else (1 : Int64)) + (if (flags &&& (2 : Int32)) = (0 : Int32) then (0 : Int64) else (1 : Int64))) + (if (flags &&& (4 : Int32)) = (0 : Int32) then (0 : Int64) else (1 : Int64))))), .second]) rfl ?_
      show Steps p_.tables e_ below (T7.setTop (mkF m_ 190 #[.val (.int flags), .val (.long line), .second, .val (.int (if (flags &&& (1 : Int32)) = (0 : Int32) then (0 : Int32) else 1)), .val (.int (if (flags &&& (2 : Int32)) = (0 : Int32) then (0 : Int32) else 1)), .val (.int (if (flags &&& (4 : Int32)) = (0 : Int32) then (0 : Int32) else 1)), .val (.int (if (flags &&& (8 : Int32)) = (0 : Int32) then (0 : Int32) else 1)), .val (.ref b1), .val (.long (0 : Int64)), .second, .val (.long (if (flags &&& (1 : Int32)) = (0 : Int32) then (0 : Int64) else (1 : Int64))), .second, .val (.long ((1 : Int64) - (if (flags &&& (1 : Int32)) = (0 : Int32) then (0 : Int64) else (1 : Int64)))), .second, .val (.int (1 : Int32)), .val (.long (((if (flags &&& (1 : Int32)) = (0 : Int32) then (0 : Int64) else (1 : Int64)) + (if (flags &&& (2 : Int32)) = (0 : Int32) then (0 : Int64) else (1 : Int64))) + (if (flags &&& (4 : Int32)) = (0 : Int32) then (0 : Int64) else (1 : Int64)))), .second, .val (.long ((3 : Int64) - (((if (flags &&& (1 : Int32)) = (0 : Int32) then (0 : Int64) else (1 : Int64)) + (if (flags &&& (2 : Int32)) = (0 : Int32) then (0 : Int64) else (1 : Int64))) + (if (flags &&& (4 : Int32)) = (0 : Int32) then (0 : Int64) else (1 : Int64))))), .second] [])) t_
      refine XS.iload X7.here hx rfl (hb hby at_190) rfl ?_
      show Steps p_.tables e_ below (T7.setTop (mkF m_ 192 #[.val (.int flags), .val (.long line), .second, .val (.int (if (flags &&& (1 : Int32)) = (0 : Int32) then (0 : Int32) else 1)), .val (.int (if (flags &&& (2 : Int32)) = (0 : Int32) then (0 : Int32) else 1)), .val (.int (if (flags &&& (4 : Int32)) = (0 : Int32) then (0 : Int32) else 1)), .val (.int (if (flags &&& (8 : Int32)) = (0 : Int32) then (0 : Int32) else 1)), .val (.ref b1), .val (.long (0 : Int64)), .second, .val (.long (if (flags &&& (1 : Int32)) = (0 : Int32) then (0 : Int64) else (1 : Int64))), .second, .val (.long ((1 : Int64) - (if (flags &&& (1 : Int32)) = (0 : Int32) then (0 : Int64) else (1 : Int64)))), .second, .val (.int (1 : Int32)), .val (.long (((if (flags &&& (1 : Int32)) = (0 : Int32) then (0 : Int64) else (1 : Int64)) + (if (flags &&& (2 : Int32)) = (0 : Int32) then (0 : Int64) else (1 : Int64))) + (if (flags &&& (4 : Int32)) = (0 : Int32) then (0 : Int64) else (1 : Int64)))), .second, .val (.long ((3 : Int64) - (((if (flags &&& (1 : Int32)) = (0 : Int32) then (0 : Int64) else (1 : Int64)) + (if (flags &&& (2 : Int32)) = (0 : Int32) then (0 : Int64) else (1 : Int64))) + (if (flags &&& (4 : Int32)) = (0 : Int32) then (0 : Int64) else (1 : Int64))))), .second] [(.int (1 : Int32))])) t_
      refine XS.ifNo X7.here hx rfl (hb hby at_192) rfl ((if0 _ _).trans (feq (by decide : ¬ ((1 : Int32) = (0 : Int32)))).1) ?_
      show Steps p_.tables e_ below (T7.setTop (mkF m_ 195 #[.val (.int flags), .val (.long line), .second, .val (.int (if (flags &&& (1 : Int32)) = (0 : Int32) then (0 : Int32) else 1)), .val (.int (if (flags &&& (2 : Int32)) = (0 : Int32) then (0 : Int32) else 1)), .val (.int (if (flags &&& (4 : Int32)) = (0 : Int32) then (0 : Int32) else 1)), .val (.int (if (flags &&& (8 : Int32)) = (0 : Int32) then (0 : Int32) else 1)), .val (.ref b1), .val (.long (0 : Int64)), .second, .val (.long (if (flags &&& (1 : Int32)) = (0 : Int32) then (0 : Int64) else (1 : Int64))), .second, .val (.long ((1 : Int64) - (if (flags &&& (1 : Int32)) = (0 : Int32) then (0 : Int64) else (1 : Int64)))), .second, .val (.int (1 : Int32)), .val (.long (((if (flags &&& (1 : Int32)) = (0 : Int32) then (0 : Int64) else (1 : Int64)) + (if (flags &&& (2 : Int32)) = (0 : Int32) then (0 : Int64) else (1 : Int64))) + (if (flags &&& (4 : Int32)) = (0 : Int32) then (0 : Int64) else (1 : Int64)))), .second, .val (.long ((3 : Int64) - (((if (flags &&& (1 : Int32)) = (0 : Int32) then (0 : Int64) else (1 : Int64)) + (if (flags &&& (2 : Int32)) = (0 : Int32) then (0 : Int64) else (1 : Int64))) + (if (flags &&& (4 : Int32)) = (0 : Int32) then (0 : Int64) else (1 : Int64))))), .second] [])) t_
      refine XS.aload X7.here hx rfl (hb hby at_195) rfl rfl ?_
      show Steps p_.tables e_ below (T7.setTop (mkF m_ 197 #[.val (.int flags), .val (.long line), .second, .val (.int (if (flags &&& (1 : Int32)) = (0 : Int32) then (0 : Int32) else 1)), .val (.int (if (flags &&& (2 : Int32)) = (0 : Int32) then (0 : Int32) else 1)), .val (.int (if (flags &&& (4 : Int32)) = (0 : Int32) then (0 : Int32) else 1)), .val (.int (if (flags &&& (8 : Int32)) = (0 : Int32) then (0 : Int32) else 1)), .val (.ref b1), .val (.long (0 : Int64)), .second, .val (.long (if (flags &&& (1 : Int32)) = (0 : Int32) then (0 : Int64) else (1 : Int64))), .second, .val (.long ((1 : Int64) - (if (flags &&& (1 : Int32)) = (0 : Int32) then (0 : Int64) else (1 : Int64)))), .second, .val (.int (1 : Int32)), .val (.long (((if (flags &&& (1 : Int32)) = (0 : Int32) then (0 : Int64) else (1 : Int64)) + (if (flags &&& (2 : Int32)) = (0 : Int32) then (0 : Int64) else (1 : Int64))) + (if (flags &&& (4 : Int32)) = (0 : Int32) then (0 : Int64) else (1 : Int64)))), .second, .val (.long ((3 : Int64) - (((if (flags &&& (1 : Int32)) = (0 : Int32) then (0 : Int64) else (1 : Int64)) + (if (flags &&& (2 : Int32)) = (0 : Int32) then (0 : Int64) else (1 : Int64))) + (if (flags &&& (4 : Int32)) = (0 : Int32) then (0 : Int64) else (1 : Int64))))), .second] [(.ref b1)])) t_
      exact k_
    refine own_callV X7 hx hZ (y := (⟨"com/example/keep_count/keepcount/api/BatchResult", "allowed", "()J"⟩ : MethodName)) (z := (⟨"com/example/keep_count/keepcount/api/BatchResult", "allowed", "()J"⟩ : MethodName)) hown (hw _ (List.mem_of_getElem? (i := 42) rfl)) (hw _ (List.mem_of_getElem? (i := 43) rfl)) (notFace_of_selects (args := #[]) (mvT hZ (hw _ (List.mem_of_getElem? (i := 45) rfl)))) (hw _ (List.mem_of_getElem? (i := 45) rfl)) (hw _ (List.mem_of_getElem? (i := 44) rfl)) (hw _ (List.mem_of_getElem? (i := 2) rfl)) (hw _ (List.mem_of_getElem? (i := 46) rfl)) (by decide) b1 [] [] E_b1 (rm7 l Z a0 hw b1 (own_al (if (flags &&& (4 : Int32)) = (0 : Int32) then (0 : Int32) else 1) (own_al (if (flags &&& (2 : Int32)) = (0 : Int32) then (0 : Int32) else 1) (own_al (if (flags &&& (1 : Int32)) = (0 : Int32) then (0 : Int32) else 1) (0 : Int64)))) (own_de (if (flags &&& (4 : Int32)) = (0 : Int32) then (0 : Int32) else 1) (own_de (if (flags &&& (2 : Int32)) = (0 : Int32) then (0 : Int32) else 1) (own_de (if (flags &&& (1 : Int32)) = (0 : Int32) then (0 : Int32) else 1) (0 : Int64)))) (0 : Int64) T7.heap n0 Z0 F_allowed_b1 F_denied_b1 F_rejected_b1) 0 (by decide) (by decide) rfl (by rw [hml]; rfl) (lenOf own_pd12 rfl) rfl (Nat.le_of_eq rfl) (hb hby at_197) (by decide) (by decide) ?_
    intro v8 T8 L8 X8 q8
    obtain ⟨rfl, N8q, e8⟩ := q8
    have N8 := Fr.app N7 N8q
    show own_Out p_ e_ below s_ _ _ _ T8 (mkF m_ 200 #[.val (.int flags), .val (.long line), .second, .val (.int (if (flags &&& (1 : Int32)) = (0 : Int32) then (0 : Int32) else 1)), .val (.int (if (flags &&& (2 : Int32)) = (0 : Int32) then (0 : Int32) else 1)), .val (.int (if (flags &&& (4 : Int32)) = (0 : Int32) then (0 : Int32) else 1)), .val (.int (if (flags &&& (8 : Int32)) = (0 : Int32) then (0 : Int32) else 1)), .val (.ref b1), .val (.long (0 : Int64)), .second, .val (.long (if (flags &&& (1 : Int32)) = (0 : Int32) then (0 : Int64) else (1 : Int64))), .second, .val (.long ((1 : Int64) - (if (flags &&& (1 : Int32)) = (0 : Int32) then (0 : Int64) else (1 : Int64)))), .second, .val (.int (1 : Int32)), .val (.long (((if (flags &&& (1 : Int32)) = (0 : Int32) then (0 : Int64) else (1 : Int64)) + (if (flags &&& (2 : Int32)) = (0 : Int32) then (0 : Int64) else (1 : Int64))) + (if (flags &&& (4 : Int32)) = (0 : Int32) then (0 : Int64) else (1 : Int64)))), .second, .val (.long ((3 : Int64) - (((if (flags &&& (1 : Int32)) = (0 : Int32) then (0 : Int64) else (1 : Int64)) + (if (flags &&& (2 : Int32)) = (0 : Int32) then (0 : Int64) else (1 : Int64))) + (if (flags &&& (4 : Int32)) = (0 : Int32) then (0 : Int64) else (1 : Int64))))), .second] [(.long (own_al (if (flags &&& (4 : Int32)) = (0 : Int32) then (0 : Int32) else 1) (own_al (if (flags &&& (2 : Int32)) = (0 : Int32) then (0 : Int32) else 1) (own_al (if (flags &&& (1 : Int32)) = (0 : Int32) then (0 : Int32) else 1) (0 : Int64)))))])
    refine own_st T8 (mkF m_ 208 #[.val (.int flags), .val (.long line), .second, .val (.int (if (flags &&& (1 : Int32)) = (0 : Int32) then (0 : Int32) else 1)), .val (.int (if (flags &&& (2 : Int32)) = (0 : Int32) then (0 : Int32) else 1)), .val (.int (if (flags &&& (4 : Int32)) = (0 : Int32) then (0 : Int32) else 1)), .val (.int (if (flags &&& (8 : Int32)) = (0 : Int32) then (0 : Int32) else 1)), .val (.ref b1), .val (.long (0 : Int64)), .second, .val (.long (if (flags &&& (1 : Int32)) = (0 : Int32) then (0 : Int64) else (1 : Int64))), .second, .val (.long ((1 : Int64) - (if (flags &&& (1 : Int32)) = (0 : Int32) then (0 : Int64) else (1 : Int64)))), .second, .val (.int (1 : Int32)), .val (.long (((if (flags &&& (1 : Int32)) = (0 : Int32) then (0 : Int64) else (1 : Int64)) + (if (flags &&& (2 : Int32)) = (0 : Int32) then (0 : Int64) else (1 : Int64))) + (if (flags &&& (4 : Int32)) = (0 : Int32) then (0 : Int64) else (1 : Int64)))), .second, .val (.long ((3 : Int64) - (((if (flags &&& (1 : Int32)) = (0 : Int32) then (0 : Int64) else (1 : Int64)) + (if (flags &&& (2 : Int32)) = (0 : Int32) then (0 : Int64) else (1 : Int64))) + (if (flags &&& (4 : Int32)) = (0 : Int32) then (0 : Int64) else (1 : Int64))))), .second] [(.ref b1)]) (fun t_ k_ => ?_) ?_
    · refine XS.lload X8.here hx rfl (hb hby at_200) rfl ?_
      show Steps p_.tables e_ below (T8.setTop (mkF m_ 202 #[.val (.int flags), .val (.long line), .second, .val (.int (if (flags &&& (1 : Int32)) = (0 : Int32) then (0 : Int32) else 1)), .val (.int (if (flags &&& (2 : Int32)) = (0 : Int32) then (0 : Int32) else 1)), .val (.int (if (flags &&& (4 : Int32)) = (0 : Int32) then (0 : Int32) else 1)), .val (.int (if (flags &&& (8 : Int32)) = (0 : Int32) then (0 : Int32) else 1)), .val (.ref b1), .val (.long (0 : Int64)), .second, .val (.long (if (flags &&& (1 : Int32)) = (0 : Int32) then (0 : Int64) else (1 : Int64))), .second, .val (.long ((1 : Int64) - (if (flags &&& (1 : Int32)) = (0 : Int32) then (0 : Int64) else (1 : Int64)))), .second, .val (.int (1 : Int32)), .val (.long (((if (flags &&& (1 : Int32)) = (0 : Int32) then (0 : Int64) else (1 : Int64)) + (if (flags &&& (2 : Int32)) = (0 : Int32) then (0 : Int64) else (1 : Int64))) + (if (flags &&& (4 : Int32)) = (0 : Int32) then (0 : Int64) else (1 : Int64)))), .second, .val (.long ((3 : Int64) - (((if (flags &&& (1 : Int32)) = (0 : Int32) then (0 : Int64) else (1 : Int64)) + (if (flags &&& (2 : Int32)) = (0 : Int32) then (0 : Int64) else (1 : Int64))) + (if (flags &&& (4 : Int32)) = (0 : Int32) then (0 : Int64) else (1 : Int64))))), .second] [(.long (((if (flags &&& (1 : Int32)) = (0 : Int32) then (0 : Int64) else (1 : Int64)) + (if (flags &&& (2 : Int32)) = (0 : Int32) then (0 : Int64) else (1 : Int64))) + (if (flags &&& (4 : Int32)) = (0 : Int32) then (0 : Int64) else (1 : Int64)))), (.long (own_al (if (flags &&& (4 : Int32)) = (0 : Int32) then (0 : Int32) else 1) (own_al (if (flags &&& (2 : Int32)) = (0 : Int32) then (0 : Int32) else 1) (own_al (if (flags &&& (1 : Int32)) = (0 : Int32) then (0 : Int32) else 1) (0 : Int64)))))])) t_
      refine XS.lcmp X8.here hx rfl (hb hby at_202) rfl ?_
      show Steps p_.tables e_ below (T8.setTop (mkF m_ 203 #[.val (.int flags), .val (.long line), .second, .val (.int (if (flags &&& (1 : Int32)) = (0 : Int32) then (0 : Int32) else 1)), .val (.int (if (flags &&& (2 : Int32)) = (0 : Int32) then (0 : Int32) else 1)), .val (.int (if (flags &&& (4 : Int32)) = (0 : Int32) then (0 : Int32) else 1)), .val (.int (if (flags &&& (8 : Int32)) = (0 : Int32) then (0 : Int32) else 1)), .val (.ref b1), .val (.long (0 : Int64)), .second, .val (.long (if (flags &&& (1 : Int32)) = (0 : Int32) then (0 : Int64) else (1 : Int64))), .second, .val (.long ((1 : Int64) - (if (flags &&& (1 : Int32)) = (0 : Int32) then (0 : Int64) else (1 : Int64)))), .second, .val (.int (1 : Int32)), .val (.long (((if (flags &&& (1 : Int32)) = (0 : Int32) then (0 : Int64) else (1 : Int64)) + (if (flags &&& (2 : Int32)) = (0 : Int32) then (0 : Int64) else (1 : Int64))) + (if (flags &&& (4 : Int32)) = (0 : Int32) then (0 : Int64) else (1 : Int64)))), .second, .val (.long ((3 : Int64) - (((if (flags &&& (1 : Int32)) = (0 : Int32) then (0 : Int64) else (1 : Int64)) + (if (flags &&& (2 : Int32)) = (0 : Int32) then (0 : Int64) else (1 : Int64))) + (if (flags &&& (4 : Int32)) = (0 : Int32) then (0 : Int64) else (1 : Int64))))), .second] [(.int (lcmpW (own_al (if (flags &&& (4 : Int32)) = (0 : Int32) then (0 : Int32) else 1) (own_al (if (flags &&& (2 : Int32)) = (0 : Int32) then (0 : Int32) else 1) (own_al (if (flags &&& (1 : Int32)) = (0 : Int32) then (0 : Int32) else 1) (0 : Int64)))) (((if (flags &&& (1 : Int32)) = (0 : Int32) then (0 : Int64) else (1 : Int64)) + (if (flags &&& (2 : Int32)) = (0 : Int32) then (0 : Int64) else (1 : Int64))) + (if (flags &&& (4 : Int32)) = (0 : Int32) then (0 : Int64) else (1 : Int64)))))])) t_
      refine XS.ifNo X8.here hx rfl (hb hby at_203) rfl ((if0 _ _).trans (teq ((lw_eq (own_al (if (flags &&& (4 : Int32)) = (0 : Int32) then (0 : Int32) else 1) (own_al (if (flags &&& (2 : Int32)) = (0 : Int32) then (0 : Int32) else 1) (own_al (if (flags &&& (1 : Int32)) = (0 : Int32) then (0 : Int32) else 1) (0 : Int64)))) (((if (flags &&& (1 : Int32)) = (0 : Int32) then (0 : Int64) else (1 : Int64)) + (if (flags &&& (2 : Int32)) = (0 : Int32) then (0 : Int64) else (1 : Int64))) + (if (flags &&& (4 : Int32)) = (0 : Int32) then (0 : Int64) else (1 : Int64)))).mpr (by by_cases q0 : (flags &&& (1 : Int32)) = (0 : Int32) <;> by_cases q1 : (flags &&& (2 : Int32)) = (0 : Int32) <;> by_cases q2 : (flags &&& (4 : Int32)) = (0 : Int32) <;> (try simp only [own_al, own_de, q0, q1, q2, if_true, if_false]) <;> decide : (own_al (if (flags &&& (4 : Int32)) = (0 : Int32) then (0 : Int32) else 1) (own_al (if (flags &&& (2 : Int32)) = (0 : Int32) then (0 : Int32) else 1) (own_al (if (flags &&& (1 : Int32)) = (0 : Int32) then (0 : Int32) else 1) (0 : Int64)))) = (((if (flags &&& (1 : Int32)) = (0 : Int32) then (0 : Int64) else (1 : Int64)) + (if (flags &&& (2 : Int32)) = (0 : Int32) then (0 : Int64) else (1 : Int64))) + (if (flags &&& (4 : Int32)) = (0 : Int32) then (0 : Int64) else (1 : Int64)))))).2) ?_
      show Steps p_.tables e_ below (T8.setTop (mkF m_ 206 #[.val (.int flags), .val (.long line), .second, .val (.int (if (flags &&& (1 : Int32)) = (0 : Int32) then (0 : Int32) else 1)), .val (.int (if (flags &&& (2 : Int32)) = (0 : Int32) then (0 : Int32) else 1)), .val (.int (if (flags &&& (4 : Int32)) = (0 : Int32) then (0 : Int32) else 1)), .val (.int (if (flags &&& (8 : Int32)) = (0 : Int32) then (0 : Int32) else 1)), .val (.ref b1), .val (.long (0 : Int64)), .second, .val (.long (if (flags &&& (1 : Int32)) = (0 : Int32) then (0 : Int64) else (1 : Int64))), .second, .val (.long ((1 : Int64) - (if (flags &&& (1 : Int32)) = (0 : Int32) then (0 : Int64) else (1 : Int64)))), .second, .val (.int (1 : Int32)), .val (.long (((if (flags &&& (1 : Int32)) = (0 : Int32) then (0 : Int64) else (1 : Int64)) + (if (flags &&& (2 : Int32)) = (0 : Int32) then (0 : Int64) else (1 : Int64))) + (if (flags &&& (4 : Int32)) = (0 : Int32) then (0 : Int64) else (1 : Int64)))), .second, .val (.long ((3 : Int64) - (((if (flags &&& (1 : Int32)) = (0 : Int32) then (0 : Int64) else (1 : Int64)) + (if (flags &&& (2 : Int32)) = (0 : Int32) then (0 : Int64) else (1 : Int64))) + (if (flags &&& (4 : Int32)) = (0 : Int32) then (0 : Int64) else (1 : Int64))))), .second] [])) t_
      refine XS.aload X8.here hx rfl (hb hby at_206) rfl rfl ?_
      show Steps p_.tables e_ below (T8.setTop (mkF m_ 208 #[.val (.int flags), .val (.long line), .second, .val (.int (if (flags &&& (1 : Int32)) = (0 : Int32) then (0 : Int32) else 1)), .val (.int (if (flags &&& (2 : Int32)) = (0 : Int32) then (0 : Int32) else 1)), .val (.int (if (flags &&& (4 : Int32)) = (0 : Int32) then (0 : Int32) else 1)), .val (.int (if (flags &&& (8 : Int32)) = (0 : Int32) then (0 : Int32) else 1)), .val (.ref b1), .val (.long (0 : Int64)), .second, .val (.long (if (flags &&& (1 : Int32)) = (0 : Int32) then (0 : Int64) else (1 : Int64))), .second, .val (.long ((1 : Int64) - (if (flags &&& (1 : Int32)) = (0 : Int32) then (0 : Int64) else (1 : Int64)))), .second, .val (.int (1 : Int32)), .val (.long (((if (flags &&& (1 : Int32)) = (0 : Int32) then (0 : Int64) else (1 : Int64)) + (if (flags &&& (2 : Int32)) = (0 : Int32) then (0 : Int64) else (1 : Int64))) + (if (flags &&& (4 : Int32)) = (0 : Int32) then (0 : Int64) else (1 : Int64)))), .second, .val (.long ((3 : Int64) - (((if (flags &&& (1 : Int32)) = (0 : Int32) then (0 : Int64) else (1 : Int64)) + (if (flags &&& (2 : Int32)) = (0 : Int32) then (0 : Int64) else (1 : Int64))) + (if (flags &&& (4 : Int32)) = (0 : Int32) then (0 : Int64) else (1 : Int64))))), .second] [(.ref b1)])) t_
      exact k_
    refine own_callV X8 hx hZ (y := (⟨"com/example/keep_count/keepcount/api/BatchResult", "denied", "()J"⟩ : MethodName)) (z := (⟨"com/example/keep_count/keepcount/api/BatchResult", "denied", "()J"⟩ : MethodName)) hown (hw _ (List.mem_of_getElem? (i := 49) rfl)) (hw _ (List.mem_of_getElem? (i := 50) rfl)) (notFace_of_selects (args := #[]) (mvT hZ (hw _ (List.mem_of_getElem? (i := 52) rfl)))) (hw _ (List.mem_of_getElem? (i := 52) rfl)) (hw _ (List.mem_of_getElem? (i := 51) rfl)) (hw _ (List.mem_of_getElem? (i := 2) rfl)) (hw _ (List.mem_of_getElem? (i := 53) rfl)) (by decide) b1 [] [] E_b1 (rm8 l Z a0 hw b1 (own_al (if (flags &&& (4 : Int32)) = (0 : Int32) then (0 : Int32) else 1) (own_al (if (flags &&& (2 : Int32)) = (0 : Int32) then (0 : Int32) else 1) (own_al (if (flags &&& (1 : Int32)) = (0 : Int32) then (0 : Int32) else 1) (0 : Int64)))) (own_de (if (flags &&& (4 : Int32)) = (0 : Int32) then (0 : Int32) else 1) (own_de (if (flags &&& (2 : Int32)) = (0 : Int32) then (0 : Int32) else 1) (own_de (if (flags &&& (1 : Int32)) = (0 : Int32) then (0 : Int32) else 1) (0 : Int64)))) (0 : Int64) T7.heap n0 Z0 F_allowed_b1 F_denied_b1 F_rejected_b1) 0 (by decide) (by decide) e8 (by rw [hml]; rfl) (lenOf own_pd12 rfl) rfl (Nat.le_of_eq rfl) (hb hby at_208) (by decide) (by decide) ?_
    intro v9 T9 L9 X9 q9
    obtain ⟨rfl, N9q, e9⟩ := q9
    have N9 := Fr.app N8 N9q
    show own_Out p_ e_ below s_ _ _ _ T9 (mkF m_ 211 #[.val (.int flags), .val (.long line), .second, .val (.int (if (flags &&& (1 : Int32)) = (0 : Int32) then (0 : Int32) else 1)), .val (.int (if (flags &&& (2 : Int32)) = (0 : Int32) then (0 : Int32) else 1)), .val (.int (if (flags &&& (4 : Int32)) = (0 : Int32) then (0 : Int32) else 1)), .val (.int (if (flags &&& (8 : Int32)) = (0 : Int32) then (0 : Int32) else 1)), .val (.ref b1), .val (.long (0 : Int64)), .second, .val (.long (if (flags &&& (1 : Int32)) = (0 : Int32) then (0 : Int64) else (1 : Int64))), .second, .val (.long ((1 : Int64) - (if (flags &&& (1 : Int32)) = (0 : Int32) then (0 : Int64) else (1 : Int64)))), .second, .val (.int (1 : Int32)), .val (.long (((if (flags &&& (1 : Int32)) = (0 : Int32) then (0 : Int64) else (1 : Int64)) + (if (flags &&& (2 : Int32)) = (0 : Int32) then (0 : Int64) else (1 : Int64))) + (if (flags &&& (4 : Int32)) = (0 : Int32) then (0 : Int64) else (1 : Int64)))), .second, .val (.long ((3 : Int64) - (((if (flags &&& (1 : Int32)) = (0 : Int32) then (0 : Int64) else (1 : Int64)) + (if (flags &&& (2 : Int32)) = (0 : Int32) then (0 : Int64) else (1 : Int64))) + (if (flags &&& (4 : Int32)) = (0 : Int32) then (0 : Int64) else (1 : Int64))))), .second] [(.long (own_de (if (flags &&& (4 : Int32)) = (0 : Int32) then (0 : Int32) else 1) (own_de (if (flags &&& (2 : Int32)) = (0 : Int32) then (0 : Int32) else 1) (own_de (if (flags &&& (1 : Int32)) = (0 : Int32) then (0 : Int32) else 1) (0 : Int64)))))])
    refine own_st T9 (mkF m_ 219 #[.val (.int flags), .val (.long line), .second, .val (.int (if (flags &&& (1 : Int32)) = (0 : Int32) then (0 : Int32) else 1)), .val (.int (if (flags &&& (2 : Int32)) = (0 : Int32) then (0 : Int32) else 1)), .val (.int (if (flags &&& (4 : Int32)) = (0 : Int32) then (0 : Int32) else 1)), .val (.int (if (flags &&& (8 : Int32)) = (0 : Int32) then (0 : Int32) else 1)), .val (.ref b1), .val (.long (0 : Int64)), .second, .val (.long (if (flags &&& (1 : Int32)) = (0 : Int32) then (0 : Int64) else (1 : Int64))), .second, .val (.long ((1 : Int64) - (if (flags &&& (1 : Int32)) = (0 : Int32) then (0 : Int64) else (1 : Int64)))), .second, .val (.int (1 : Int32)), .val (.long (((if (flags &&& (1 : Int32)) = (0 : Int32) then (0 : Int64) else (1 : Int64)) + (if (flags &&& (2 : Int32)) = (0 : Int32) then (0 : Int64) else (1 : Int64))) + (if (flags &&& (4 : Int32)) = (0 : Int32) then (0 : Int64) else (1 : Int64)))), .second, .val (.long ((3 : Int64) - (((if (flags &&& (1 : Int32)) = (0 : Int32) then (0 : Int64) else (1 : Int64)) + (if (flags &&& (2 : Int32)) = (0 : Int32) then (0 : Int64) else (1 : Int64))) + (if (flags &&& (4 : Int32)) = (0 : Int32) then (0 : Int64) else (1 : Int64))))), .second] [(.ref b1)]) (fun t_ k_ => ?_) ?_
    · refine XS.lload X9.here hx rfl (hb hby at_211) rfl ?_
      show Steps p_.tables e_ below (T9.setTop (mkF m_ 213 #[.val (.int flags), .val (.long line), .second, .val (.int (if (flags &&& (1 : Int32)) = (0 : Int32) then (0 : Int32) else 1)), .val (.int (if (flags &&& (2 : Int32)) = (0 : Int32) then (0 : Int32) else 1)), .val (.int (if (flags &&& (4 : Int32)) = (0 : Int32) then (0 : Int32) else 1)), .val (.int (if (flags &&& (8 : Int32)) = (0 : Int32) then (0 : Int32) else 1)), .val (.ref b1), .val (.long (0 : Int64)), .second, .val (.long (if (flags &&& (1 : Int32)) = (0 : Int32) then (0 : Int64) else (1 : Int64))), .second, .val (.long ((1 : Int64) - (if (flags &&& (1 : Int32)) = (0 : Int32) then (0 : Int64) else (1 : Int64)))), .second, .val (.int (1 : Int32)), .val (.long (((if (flags &&& (1 : Int32)) = (0 : Int32) then (0 : Int64) else (1 : Int64)) + (if (flags &&& (2 : Int32)) = (0 : Int32) then (0 : Int64) else (1 : Int64))) + (if (flags &&& (4 : Int32)) = (0 : Int32) then (0 : Int64) else (1 : Int64)))), .second, .val (.long ((3 : Int64) - (((if (flags &&& (1 : Int32)) = (0 : Int32) then (0 : Int64) else (1 : Int64)) + (if (flags &&& (2 : Int32)) = (0 : Int32) then (0 : Int64) else (1 : Int64))) + (if (flags &&& (4 : Int32)) = (0 : Int32) then (0 : Int64) else (1 : Int64))))), .second] [(.long ((3 : Int64) - (((if (flags &&& (1 : Int32)) = (0 : Int32) then (0 : Int64) else (1 : Int64)) + (if (flags &&& (2 : Int32)) = (0 : Int32) then (0 : Int64) else (1 : Int64))) + (if (flags &&& (4 : Int32)) = (0 : Int32) then (0 : Int64) else (1 : Int64))))), (.long (own_de (if (flags &&& (4 : Int32)) = (0 : Int32) then (0 : Int32) else 1) (own_de (if (flags &&& (2 : Int32)) = (0 : Int32) then (0 : Int32) else 1) (own_de (if (flags &&& (1 : Int32)) = (0 : Int32) then (0 : Int32) else 1) (0 : Int64)))))])) t_
      refine XS.lcmp X9.here hx rfl (hb hby at_213) rfl ?_
      show Steps p_.tables e_ below (T9.setTop (mkF m_ 214 #[.val (.int flags), .val (.long line), .second, .val (.int (if (flags &&& (1 : Int32)) = (0 : Int32) then (0 : Int32) else 1)), .val (.int (if (flags &&& (2 : Int32)) = (0 : Int32) then (0 : Int32) else 1)), .val (.int (if (flags &&& (4 : Int32)) = (0 : Int32) then (0 : Int32) else 1)), .val (.int (if (flags &&& (8 : Int32)) = (0 : Int32) then (0 : Int32) else 1)), .val (.ref b1), .val (.long (0 : Int64)), .second, .val (.long (if (flags &&& (1 : Int32)) = (0 : Int32) then (0 : Int64) else (1 : Int64))), .second, .val (.long ((1 : Int64) - (if (flags &&& (1 : Int32)) = (0 : Int32) then (0 : Int64) else (1 : Int64)))), .second, .val (.int (1 : Int32)), .val (.long (((if (flags &&& (1 : Int32)) = (0 : Int32) then (0 : Int64) else (1 : Int64)) + (if (flags &&& (2 : Int32)) = (0 : Int32) then (0 : Int64) else (1 : Int64))) + (if (flags &&& (4 : Int32)) = (0 : Int32) then (0 : Int64) else (1 : Int64)))), .second, .val (.long ((3 : Int64) - (((if (flags &&& (1 : Int32)) = (0 : Int32) then (0 : Int64) else (1 : Int64)) + (if (flags &&& (2 : Int32)) = (0 : Int32) then (0 : Int64) else (1 : Int64))) + (if (flags &&& (4 : Int32)) = (0 : Int32) then (0 : Int64) else (1 : Int64))))), .second] [(.int (lcmpW (own_de (if (flags &&& (4 : Int32)) = (0 : Int32) then (0 : Int32) else 1) (own_de (if (flags &&& (2 : Int32)) = (0 : Int32) then (0 : Int32) else 1) (own_de (if (flags &&& (1 : Int32)) = (0 : Int32) then (0 : Int32) else 1) (0 : Int64)))) ((3 : Int64) - (((if (flags &&& (1 : Int32)) = (0 : Int32) then (0 : Int64) else (1 : Int64)) + (if (flags &&& (2 : Int32)) = (0 : Int32) then (0 : Int64) else (1 : Int64))) + (if (flags &&& (4 : Int32)) = (0 : Int32) then (0 : Int64) else (1 : Int64))))))])) t_
      refine XS.ifNo X9.here hx rfl (hb hby at_214) rfl ((if0 _ _).trans (teq ((lw_eq (own_de (if (flags &&& (4 : Int32)) = (0 : Int32) then (0 : Int32) else 1) (own_de (if (flags &&& (2 : Int32)) = (0 : Int32) then (0 : Int32) else 1) (own_de (if (flags &&& (1 : Int32)) = (0 : Int32) then (0 : Int32) else 1) (0 : Int64)))) ((3 : Int64) - (((if (flags &&& (1 : Int32)) = (0 : Int32) then (0 : Int64) else (1 : Int64)) + (if (flags &&& (2 : Int32)) = (0 : Int32) then (0 : Int64) else (1 : Int64))) + (if (flags &&& (4 : Int32)) = (0 : Int32) then (0 : Int64) else (1 : Int64))))).mpr (by by_cases q0 : (flags &&& (1 : Int32)) = (0 : Int32) <;> by_cases q1 : (flags &&& (2 : Int32)) = (0 : Int32) <;> by_cases q2 : (flags &&& (4 : Int32)) = (0 : Int32) <;> (try simp only [own_al, own_de, q0, q1, q2, if_true, if_false]) <;> decide : (own_de (if (flags &&& (4 : Int32)) = (0 : Int32) then (0 : Int32) else 1) (own_de (if (flags &&& (2 : Int32)) = (0 : Int32) then (0 : Int32) else 1) (own_de (if (flags &&& (1 : Int32)) = (0 : Int32) then (0 : Int32) else 1) (0 : Int64)))) = ((3 : Int64) - (((if (flags &&& (1 : Int32)) = (0 : Int32) then (0 : Int64) else (1 : Int64)) + (if (flags &&& (2 : Int32)) = (0 : Int32) then (0 : Int64) else (1 : Int64))) + (if (flags &&& (4 : Int32)) = (0 : Int32) then (0 : Int64) else (1 : Int64))))))).2) ?_
      show Steps p_.tables e_ below (T9.setTop (mkF m_ 217 #[.val (.int flags), .val (.long line), .second, .val (.int (if (flags &&& (1 : Int32)) = (0 : Int32) then (0 : Int32) else 1)), .val (.int (if (flags &&& (2 : Int32)) = (0 : Int32) then (0 : Int32) else 1)), .val (.int (if (flags &&& (4 : Int32)) = (0 : Int32) then (0 : Int32) else 1)), .val (.int (if (flags &&& (8 : Int32)) = (0 : Int32) then (0 : Int32) else 1)), .val (.ref b1), .val (.long (0 : Int64)), .second, .val (.long (if (flags &&& (1 : Int32)) = (0 : Int32) then (0 : Int64) else (1 : Int64))), .second, .val (.long ((1 : Int64) - (if (flags &&& (1 : Int32)) = (0 : Int32) then (0 : Int64) else (1 : Int64)))), .second, .val (.int (1 : Int32)), .val (.long (((if (flags &&& (1 : Int32)) = (0 : Int32) then (0 : Int64) else (1 : Int64)) + (if (flags &&& (2 : Int32)) = (0 : Int32) then (0 : Int64) else (1 : Int64))) + (if (flags &&& (4 : Int32)) = (0 : Int32) then (0 : Int64) else (1 : Int64)))), .second, .val (.long ((3 : Int64) - (((if (flags &&& (1 : Int32)) = (0 : Int32) then (0 : Int64) else (1 : Int64)) + (if (flags &&& (2 : Int32)) = (0 : Int32) then (0 : Int64) else (1 : Int64))) + (if (flags &&& (4 : Int32)) = (0 : Int32) then (0 : Int64) else (1 : Int64))))), .second] [])) t_
      refine XS.aload X9.here hx rfl (hb hby at_217) rfl rfl ?_
      show Steps p_.tables e_ below (T9.setTop (mkF m_ 219 #[.val (.int flags), .val (.long line), .second, .val (.int (if (flags &&& (1 : Int32)) = (0 : Int32) then (0 : Int32) else 1)), .val (.int (if (flags &&& (2 : Int32)) = (0 : Int32) then (0 : Int32) else 1)), .val (.int (if (flags &&& (4 : Int32)) = (0 : Int32) then (0 : Int32) else 1)), .val (.int (if (flags &&& (8 : Int32)) = (0 : Int32) then (0 : Int32) else 1)), .val (.ref b1), .val (.long (0 : Int64)), .second, .val (.long (if (flags &&& (1 : Int32)) = (0 : Int32) then (0 : Int64) else (1 : Int64))), .second, .val (.long ((1 : Int64) - (if (flags &&& (1 : Int32)) = (0 : Int32) then (0 : Int64) else (1 : Int64)))), .second, .val (.int (1 : Int32)), .val (.long (((if (flags &&& (1 : Int32)) = (0 : Int32) then (0 : Int64) else (1 : Int64)) + (if (flags &&& (2 : Int32)) = (0 : Int32) then (0 : Int64) else (1 : Int64))) + (if (flags &&& (4 : Int32)) = (0 : Int32) then (0 : Int64) else (1 : Int64)))), .second, .val (.long ((3 : Int64) - (((if (flags &&& (1 : Int32)) = (0 : Int32) then (0 : Int64) else (1 : Int64)) + (if (flags &&& (2 : Int32)) = (0 : Int32) then (0 : Int64) else (1 : Int64))) + (if (flags &&& (4 : Int32)) = (0 : Int32) then (0 : Int64) else (1 : Int64))))), .second] [(.ref b1)])) t_
      exact k_
    refine own_callV X9 hx hZ (y := (⟨"com/example/keep_count/keepcount/api/BatchResult", "rejected", "()J"⟩ : MethodName)) (z := (⟨"com/example/keep_count/keepcount/api/BatchResult", "rejected", "()J"⟩ : MethodName)) hown (hw _ (List.mem_of_getElem? (i := 55) rfl)) (hw _ (List.mem_of_getElem? (i := 56) rfl)) (notFace_of_selects (args := #[]) (mvT hZ (hw _ (List.mem_of_getElem? (i := 58) rfl)))) (hw _ (List.mem_of_getElem? (i := 58) rfl)) (hw _ (List.mem_of_getElem? (i := 57) rfl)) (hw _ (List.mem_of_getElem? (i := 2) rfl)) (hw _ (List.mem_of_getElem? (i := 59) rfl)) (by decide) b1 [] [] E_b1 (rm9 l Z a0 hw b1 (own_al (if (flags &&& (4 : Int32)) = (0 : Int32) then (0 : Int32) else 1) (own_al (if (flags &&& (2 : Int32)) = (0 : Int32) then (0 : Int32) else 1) (own_al (if (flags &&& (1 : Int32)) = (0 : Int32) then (0 : Int32) else 1) (0 : Int64)))) (own_de (if (flags &&& (4 : Int32)) = (0 : Int32) then (0 : Int32) else 1) (own_de (if (flags &&& (2 : Int32)) = (0 : Int32) then (0 : Int32) else 1) (own_de (if (flags &&& (1 : Int32)) = (0 : Int32) then (0 : Int32) else 1) (0 : Int64)))) (0 : Int64) T7.heap n0 Z0 F_allowed_b1 F_denied_b1 F_rejected_b1) 0 (by decide) (by decide) e9 (by rw [hml]; rfl) (lenOf own_pd12 rfl) rfl (Nat.le_of_eq rfl) (hb hby at_219) (by decide) (by decide) ?_
    intro v10 T10 L10 X10 q10
    obtain ⟨rfl, N10q, e10⟩ := q10
    have N10 := Fr.app N9 N10q
    show own_Out p_ e_ below s_ _ _ _ T10 (mkF m_ 222 #[.val (.int flags), .val (.long line), .second, .val (.int (if (flags &&& (1 : Int32)) = (0 : Int32) then (0 : Int32) else 1)), .val (.int (if (flags &&& (2 : Int32)) = (0 : Int32) then (0 : Int32) else 1)), .val (.int (if (flags &&& (4 : Int32)) = (0 : Int32) then (0 : Int32) else 1)), .val (.int (if (flags &&& (8 : Int32)) = (0 : Int32) then (0 : Int32) else 1)), .val (.ref b1), .val (.long (0 : Int64)), .second, .val (.long (if (flags &&& (1 : Int32)) = (0 : Int32) then (0 : Int64) else (1 : Int64))), .second, .val (.long ((1 : Int64) - (if (flags &&& (1 : Int32)) = (0 : Int32) then (0 : Int64) else (1 : Int64)))), .second, .val (.int (1 : Int32)), .val (.long (((if (flags &&& (1 : Int32)) = (0 : Int32) then (0 : Int64) else (1 : Int64)) + (if (flags &&& (2 : Int32)) = (0 : Int32) then (0 : Int64) else (1 : Int64))) + (if (flags &&& (4 : Int32)) = (0 : Int32) then (0 : Int64) else (1 : Int64)))), .second, .val (.long ((3 : Int64) - (((if (flags &&& (1 : Int32)) = (0 : Int32) then (0 : Int64) else (1 : Int64)) + (if (flags &&& (2 : Int32)) = (0 : Int32) then (0 : Int64) else (1 : Int64))) + (if (flags &&& (4 : Int32)) = (0 : Int32) then (0 : Int64) else (1 : Int64))))), .second] [(.long (0 : Int64))])
    refine own_st T10 (mkF m_ 230 #[.val (.int flags), .val (.long line), .second, .val (.int (if (flags &&& (1 : Int32)) = (0 : Int32) then (0 : Int32) else 1)), .val (.int (if (flags &&& (2 : Int32)) = (0 : Int32) then (0 : Int32) else 1)), .val (.int (if (flags &&& (4 : Int32)) = (0 : Int32) then (0 : Int32) else 1)), .val (.int (if (flags &&& (8 : Int32)) = (0 : Int32) then (0 : Int32) else 1)), .val (.ref b1), .val (.long (0 : Int64)), .second, .val (.long (if (flags &&& (1 : Int32)) = (0 : Int32) then (0 : Int64) else (1 : Int64))), .second, .val (.long ((1 : Int64) - (if (flags &&& (1 : Int32)) = (0 : Int32) then (0 : Int64) else (1 : Int64)))), .second, .val (.int (1 : Int32)), .val (.long (((if (flags &&& (1 : Int32)) = (0 : Int32) then (0 : Int64) else (1 : Int64)) + (if (flags &&& (2 : Int32)) = (0 : Int32) then (0 : Int64) else (1 : Int64))) + (if (flags &&& (4 : Int32)) = (0 : Int32) then (0 : Int64) else (1 : Int64)))), .second, .val (.long ((3 : Int64) - (((if (flags &&& (1 : Int32)) = (0 : Int32) then (0 : Int64) else (1 : Int64)) + (if (flags &&& (2 : Int32)) = (0 : Int32) then (0 : Int64) else (1 : Int64))) + (if (flags &&& (4 : Int32)) = (0 : Int32) then (0 : Int64) else (1 : Int64))))), .second] [(.ref b1)]) (fun t_ k_ => ?_) ?_
    · refine XS.lload X10.here hx rfl (hb hby at_222) rfl ?_
      show Steps p_.tables e_ below (T10.setTop (mkF m_ 224 #[.val (.int flags), .val (.long line), .second, .val (.int (if (flags &&& (1 : Int32)) = (0 : Int32) then (0 : Int32) else 1)), .val (.int (if (flags &&& (2 : Int32)) = (0 : Int32) then (0 : Int32) else 1)), .val (.int (if (flags &&& (4 : Int32)) = (0 : Int32) then (0 : Int32) else 1)), .val (.int (if (flags &&& (8 : Int32)) = (0 : Int32) then (0 : Int32) else 1)), .val (.ref b1), .val (.long (0 : Int64)), .second, .val (.long (if (flags &&& (1 : Int32)) = (0 : Int32) then (0 : Int64) else (1 : Int64))), .second, .val (.long ((1 : Int64) - (if (flags &&& (1 : Int32)) = (0 : Int32) then (0 : Int64) else (1 : Int64)))), .second, .val (.int (1 : Int32)), .val (.long (((if (flags &&& (1 : Int32)) = (0 : Int32) then (0 : Int64) else (1 : Int64)) + (if (flags &&& (2 : Int32)) = (0 : Int32) then (0 : Int64) else (1 : Int64))) + (if (flags &&& (4 : Int32)) = (0 : Int32) then (0 : Int64) else (1 : Int64)))), .second, .val (.long ((3 : Int64) - (((if (flags &&& (1 : Int32)) = (0 : Int32) then (0 : Int64) else (1 : Int64)) + (if (flags &&& (2 : Int32)) = (0 : Int32) then (0 : Int64) else (1 : Int64))) + (if (flags &&& (4 : Int32)) = (0 : Int32) then (0 : Int64) else (1 : Int64))))), .second] [(.long (0 : Int64)), (.long (0 : Int64))])) t_
      refine XS.lcmp X10.here hx rfl (hb hby at_224) rfl ?_
      show Steps p_.tables e_ below (T10.setTop (mkF m_ 225 #[.val (.int flags), .val (.long line), .second, .val (.int (if (flags &&& (1 : Int32)) = (0 : Int32) then (0 : Int32) else 1)), .val (.int (if (flags &&& (2 : Int32)) = (0 : Int32) then (0 : Int32) else 1)), .val (.int (if (flags &&& (4 : Int32)) = (0 : Int32) then (0 : Int32) else 1)), .val (.int (if (flags &&& (8 : Int32)) = (0 : Int32) then (0 : Int32) else 1)), .val (.ref b1), .val (.long (0 : Int64)), .second, .val (.long (if (flags &&& (1 : Int32)) = (0 : Int32) then (0 : Int64) else (1 : Int64))), .second, .val (.long ((1 : Int64) - (if (flags &&& (1 : Int32)) = (0 : Int32) then (0 : Int64) else (1 : Int64)))), .second, .val (.int (1 : Int32)), .val (.long (((if (flags &&& (1 : Int32)) = (0 : Int32) then (0 : Int64) else (1 : Int64)) + (if (flags &&& (2 : Int32)) = (0 : Int32) then (0 : Int64) else (1 : Int64))) + (if (flags &&& (4 : Int32)) = (0 : Int32) then (0 : Int64) else (1 : Int64)))), .second, .val (.long ((3 : Int64) - (((if (flags &&& (1 : Int32)) = (0 : Int32) then (0 : Int64) else (1 : Int64)) + (if (flags &&& (2 : Int32)) = (0 : Int32) then (0 : Int64) else (1 : Int64))) + (if (flags &&& (4 : Int32)) = (0 : Int32) then (0 : Int64) else (1 : Int64))))), .second] [(.int (lcmpW (0 : Int64) (0 : Int64)))])) t_
      refine XS.ifNo X10.here hx rfl (hb hby at_225) rfl ((if0 _ _).trans (teq ((lw_eq (0 : Int64) (0 : Int64)).mpr (by by_cases q0 : (flags &&& (1 : Int32)) = (0 : Int32) <;> by_cases q1 : (flags &&& (2 : Int32)) = (0 : Int32) <;> by_cases q2 : (flags &&& (4 : Int32)) = (0 : Int32) <;> (try simp only [own_al, own_de, q0, q1, q2, if_true, if_false]) <;> decide : (0 : Int64) = (0 : Int64)))).2) ?_
      show Steps p_.tables e_ below (T10.setTop (mkF m_ 228 #[.val (.int flags), .val (.long line), .second, .val (.int (if (flags &&& (1 : Int32)) = (0 : Int32) then (0 : Int32) else 1)), .val (.int (if (flags &&& (2 : Int32)) = (0 : Int32) then (0 : Int32) else 1)), .val (.int (if (flags &&& (4 : Int32)) = (0 : Int32) then (0 : Int32) else 1)), .val (.int (if (flags &&& (8 : Int32)) = (0 : Int32) then (0 : Int32) else 1)), .val (.ref b1), .val (.long (0 : Int64)), .second, .val (.long (if (flags &&& (1 : Int32)) = (0 : Int32) then (0 : Int64) else (1 : Int64))), .second, .val (.long ((1 : Int64) - (if (flags &&& (1 : Int32)) = (0 : Int32) then (0 : Int64) else (1 : Int64)))), .second, .val (.int (1 : Int32)), .val (.long (((if (flags &&& (1 : Int32)) = (0 : Int32) then (0 : Int64) else (1 : Int64)) + (if (flags &&& (2 : Int32)) = (0 : Int32) then (0 : Int64) else (1 : Int64))) + (if (flags &&& (4 : Int32)) = (0 : Int32) then (0 : Int64) else (1 : Int64)))), .second, .val (.long ((3 : Int64) - (((if (flags &&& (1 : Int32)) = (0 : Int32) then (0 : Int64) else (1 : Int64)) + (if (flags &&& (2 : Int32)) = (0 : Int32) then (0 : Int64) else (1 : Int64))) + (if (flags &&& (4 : Int32)) = (0 : Int32) then (0 : Int64) else (1 : Int64))))), .second] [])) t_
      refine XS.aload X10.here hx rfl (hb hby at_228) rfl rfl ?_
      show Steps p_.tables e_ below (T10.setTop (mkF m_ 230 #[.val (.int flags), .val (.long line), .second, .val (.int (if (flags &&& (1 : Int32)) = (0 : Int32) then (0 : Int32) else 1)), .val (.int (if (flags &&& (2 : Int32)) = (0 : Int32) then (0 : Int32) else 1)), .val (.int (if (flags &&& (4 : Int32)) = (0 : Int32) then (0 : Int32) else 1)), .val (.int (if (flags &&& (8 : Int32)) = (0 : Int32) then (0 : Int32) else 1)), .val (.ref b1), .val (.long (0 : Int64)), .second, .val (.long (if (flags &&& (1 : Int32)) = (0 : Int32) then (0 : Int64) else (1 : Int64))), .second, .val (.long ((1 : Int64) - (if (flags &&& (1 : Int32)) = (0 : Int32) then (0 : Int64) else (1 : Int64)))), .second, .val (.int (1 : Int32)), .val (.long (((if (flags &&& (1 : Int32)) = (0 : Int32) then (0 : Int64) else (1 : Int64)) + (if (flags &&& (2 : Int32)) = (0 : Int32) then (0 : Int64) else (1 : Int64))) + (if (flags &&& (4 : Int32)) = (0 : Int32) then (0 : Int64) else (1 : Int64)))), .second, .val (.long ((3 : Int64) - (((if (flags &&& (1 : Int32)) = (0 : Int32) then (0 : Int64) else (1 : Int64)) + (if (flags &&& (2 : Int32)) = (0 : Int32) then (0 : Int64) else (1 : Int64))) + (if (flags &&& (4 : Int32)) = (0 : Int32) then (0 : Int64) else (1 : Int64))))), .second] [(.ref b1)])) t_
      exact k_
    refine own_callV X10 hx hZ (y := (⟨"com/example/keep_count/keepcount/api/BatchResult", "received", "()J"⟩ : MethodName)) (z := (⟨"com/example/keep_count/keepcount/api/BatchResult", "received", "()J"⟩ : MethodName)) hown (hw _ (List.mem_of_getElem? (i := 62) rfl)) (hw _ (List.mem_of_getElem? (i := 63) rfl)) (notFace_of_selects (args := #[]) (mvT hZ (hw _ (List.mem_of_getElem? (i := 65) rfl)))) (hw _ (List.mem_of_getElem? (i := 65) rfl)) (hw _ (List.mem_of_getElem? (i := 64) rfl)) (hw _ (List.mem_of_getElem? (i := 2) rfl)) (hw _ (List.mem_of_getElem? (i := 66) rfl)) (by decide) b1 [] [] E_b1 (rm10 l Z a0 hw b1 (own_al (if (flags &&& (4 : Int32)) = (0 : Int32) then (0 : Int32) else 1) (own_al (if (flags &&& (2 : Int32)) = (0 : Int32) then (0 : Int32) else 1) (own_al (if (flags &&& (1 : Int32)) = (0 : Int32) then (0 : Int32) else 1) (0 : Int64)))) (own_de (if (flags &&& (4 : Int32)) = (0 : Int32) then (0 : Int32) else 1) (own_de (if (flags &&& (2 : Int32)) = (0 : Int32) then (0 : Int32) else 1) (own_de (if (flags &&& (1 : Int32)) = (0 : Int32) then (0 : Int32) else 1) (0 : Int64)))) (0 : Int64) T7.heap n0 Z0 F_allowed_b1 F_denied_b1 F_rejected_b1) 0 (by decide) (by decide) e10 (by rw [hml]; rfl) (lenOf own_pd12 rfl) rfl (Nat.le_of_eq rfl) (hb hby at_230) (by decide) (by decide) ?_
    intro v11 T11 L11 X11 q11
    obtain ⟨rfl, N11q, e11⟩ := q11
    have N11 := Fr.app N10 N11q
    show own_Out p_ e_ below s_ _ _ _ T11 (mkF m_ 233 #[.val (.int flags), .val (.long line), .second, .val (.int (if (flags &&& (1 : Int32)) = (0 : Int32) then (0 : Int32) else 1)), .val (.int (if (flags &&& (2 : Int32)) = (0 : Int32) then (0 : Int32) else 1)), .val (.int (if (flags &&& (4 : Int32)) = (0 : Int32) then (0 : Int32) else 1)), .val (.int (if (flags &&& (8 : Int32)) = (0 : Int32) then (0 : Int32) else 1)), .val (.ref b1), .val (.long (0 : Int64)), .second, .val (.long (if (flags &&& (1 : Int32)) = (0 : Int32) then (0 : Int64) else (1 : Int64))), .second, .val (.long ((1 : Int64) - (if (flags &&& (1 : Int32)) = (0 : Int32) then (0 : Int64) else (1 : Int64)))), .second, .val (.int (1 : Int32)), .val (.long (((if (flags &&& (1 : Int32)) = (0 : Int32) then (0 : Int64) else (1 : Int64)) + (if (flags &&& (2 : Int32)) = (0 : Int32) then (0 : Int64) else (1 : Int64))) + (if (flags &&& (4 : Int32)) = (0 : Int32) then (0 : Int64) else (1 : Int64)))), .second, .val (.long ((3 : Int64) - (((if (flags &&& (1 : Int32)) = (0 : Int32) then (0 : Int64) else (1 : Int64)) + (if (flags &&& (2 : Int32)) = (0 : Int32) then (0 : Int64) else (1 : Int64))) + (if (flags &&& (4 : Int32)) = (0 : Int32) then (0 : Int64) else (1 : Int64))))), .second] [(.long (((own_al (if (flags &&& (4 : Int32)) = (0 : Int32) then (0 : Int32) else 1) (own_al (if (flags &&& (2 : Int32)) = (0 : Int32) then (0 : Int32) else 1) (own_al (if (flags &&& (1 : Int32)) = (0 : Int32) then (0 : Int32) else 1) (0 : Int64)))) + (own_de (if (flags &&& (4 : Int32)) = (0 : Int32) then (0 : Int32) else 1) (own_de (if (flags &&& (2 : Int32)) = (0 : Int32) then (0 : Int32) else 1) (own_de (if (flags &&& (1 : Int32)) = (0 : Int32) then (0 : Int32) else 1) (0 : Int64))))) + (0 : Int64)))])
    refine own_st T11 (mkF m_ 248 #[.val (.int flags), .val (.long line), .second, .val (.int (if (flags &&& (1 : Int32)) = (0 : Int32) then (0 : Int32) else 1)), .val (.int (if (flags &&& (2 : Int32)) = (0 : Int32) then (0 : Int32) else 1)), .val (.int (if (flags &&& (4 : Int32)) = (0 : Int32) then (0 : Int32) else 1)), .val (.int (if (flags &&& (8 : Int32)) = (0 : Int32) then (0 : Int32) else 1)), .val (.ref b1), .val (.long (0 : Int64)), .second, .val (.long (if (flags &&& (1 : Int32)) = (0 : Int32) then (0 : Int64) else (1 : Int64))), .second, .val (.long ((1 : Int64) - (if (flags &&& (1 : Int32)) = (0 : Int32) then (0 : Int64) else (1 : Int64)))), .second, .val (.int (1 : Int32)), .val (.long (((if (flags &&& (1 : Int32)) = (0 : Int32) then (0 : Int64) else (1 : Int64)) + (if (flags &&& (2 : Int32)) = (0 : Int32) then (0 : Int64) else (1 : Int64))) + (if (flags &&& (4 : Int32)) = (0 : Int32) then (0 : Int64) else (1 : Int64)))), .second, .val (.long ((3 : Int64) - (((if (flags &&& (1 : Int32)) = (0 : Int32) then (0 : Int64) else (1 : Int64)) + (if (flags &&& (2 : Int32)) = (0 : Int32) then (0 : Int64) else (1 : Int64))) + (if (flags &&& (4 : Int32)) = (0 : Int32) then (0 : Int64) else (1 : Int64))))), .second] [(.int (1 : Int32))]) (fun t_ k_ => ?_) ?_
    · refine X11.ldc2Long hx hown (mvT hZ (hw _ (List.mem_of_getElem? (i := 54) rfl))) (g := (mkF m_ 233 #[.val (.int flags), .val (.long line), .second, .val (.int (if (flags &&& (1 : Int32)) = (0 : Int32) then (0 : Int32) else 1)), .val (.int (if (flags &&& (2 : Int32)) = (0 : Int32) then (0 : Int32) else 1)), .val (.int (if (flags &&& (4 : Int32)) = (0 : Int32) then (0 : Int32) else 1)), .val (.int (if (flags &&& (8 : Int32)) = (0 : Int32) then (0 : Int32) else 1)), .val (.ref b1), .val (.long (0 : Int64)), .second, .val (.long (if (flags &&& (1 : Int32)) = (0 : Int32) then (0 : Int64) else (1 : Int64))), .second, .val (.long ((1 : Int64) - (if (flags &&& (1 : Int32)) = (0 : Int32) then (0 : Int64) else (1 : Int64)))), .second, .val (.int (1 : Int32)), .val (.long (((if (flags &&& (1 : Int32)) = (0 : Int32) then (0 : Int64) else (1 : Int64)) + (if (flags &&& (2 : Int32)) = (0 : Int32) then (0 : Int64) else (1 : Int64))) + (if (flags &&& (4 : Int32)) = (0 : Int32) then (0 : Int64) else (1 : Int64)))), .second, .val (.long ((3 : Int64) - (((if (flags &&& (1 : Int32)) = (0 : Int32) then (0 : Int64) else (1 : Int64)) + (if (flags &&& (2 : Int32)) = (0 : Int32) then (0 : Int64) else (1 : Int64))) + (if (flags &&& (4 : Int32)) = (0 : Int32) then (0 : Int64) else (1 : Int64))))), .second] [(.long (((own_al (if (flags &&& (4 : Int32)) = (0 : Int32) then (0 : Int32) else 1) (own_al (if (flags &&& (2 : Int32)) = (0 : Int32) then (0 : Int32) else 1) (own_al (if (flags &&& (1 : Int32)) = (0 : Int32) then (0 : Int32) else 1) (0 : Int64)))) + (own_de (if (flags &&& (4 : Int32)) = (0 : Int32) then (0 : Int32) else 1) (own_de (if (flags &&& (2 : Int32)) = (0 : Int32) then (0 : Int32) else 1) (own_de (if (flags &&& (1 : Int32)) = (0 : Int32) then (0 : Int32) else 1) (0 : Int64))))) + (0 : Int64)))])) rfl (hb hby at_233) _ ?_
      show Steps p_.tables e_ below (T11.setTop (mkF m_ 236 #[.val (.int flags), .val (.long line), .second, .val (.int (if (flags &&& (1 : Int32)) = (0 : Int32) then (0 : Int32) else 1)), .val (.int (if (flags &&& (2 : Int32)) = (0 : Int32) then (0 : Int32) else 1)), .val (.int (if (flags &&& (4 : Int32)) = (0 : Int32) then (0 : Int32) else 1)), .val (.int (if (flags &&& (8 : Int32)) = (0 : Int32) then (0 : Int32) else 1)), .val (.ref b1), .val (.long (0 : Int64)), .second, .val (.long (if (flags &&& (1 : Int32)) = (0 : Int32) then (0 : Int64) else (1 : Int64))), .second, .val (.long ((1 : Int64) - (if (flags &&& (1 : Int32)) = (0 : Int32) then (0 : Int64) else (1 : Int64)))), .second, .val (.int (1 : Int32)), .val (.long (((if (flags &&& (1 : Int32)) = (0 : Int32) then (0 : Int64) else (1 : Int64)) + (if (flags &&& (2 : Int32)) = (0 : Int32) then (0 : Int64) else (1 : Int64))) + (if (flags &&& (4 : Int32)) = (0 : Int32) then (0 : Int64) else (1 : Int64)))), .second, .val (.long ((3 : Int64) - (((if (flags &&& (1 : Int32)) = (0 : Int32) then (0 : Int64) else (1 : Int64)) + (if (flags &&& (2 : Int32)) = (0 : Int32) then (0 : Int64) else (1 : Int64))) + (if (flags &&& (4 : Int32)) = (0 : Int32) then (0 : Int64) else (1 : Int64))))), .second] [(.long (3 : Int64)), (.long (((own_al (if (flags &&& (4 : Int32)) = (0 : Int32) then (0 : Int32) else 1) (own_al (if (flags &&& (2 : Int32)) = (0 : Int32) then (0 : Int32) else 1) (own_al (if (flags &&& (1 : Int32)) = (0 : Int32) then (0 : Int32) else 1) (0 : Int64)))) + (own_de (if (flags &&& (4 : Int32)) = (0 : Int32) then (0 : Int32) else 1) (own_de (if (flags &&& (2 : Int32)) = (0 : Int32) then (0 : Int32) else 1) (own_de (if (flags &&& (1 : Int32)) = (0 : Int32) then (0 : Int32) else 1) (0 : Int64))))) + (0 : Int64)))])) t_
      refine XS.lload X11.here hx rfl (hb hby at_236) rfl ?_
      show Steps p_.tables e_ below (T11.setTop (mkF m_ 238 #[.val (.int flags), .val (.long line), .second, .val (.int (if (flags &&& (1 : Int32)) = (0 : Int32) then (0 : Int32) else 1)), .val (.int (if (flags &&& (2 : Int32)) = (0 : Int32) then (0 : Int32) else 1)), .val (.int (if (flags &&& (4 : Int32)) = (0 : Int32) then (0 : Int32) else 1)), .val (.int (if (flags &&& (8 : Int32)) = (0 : Int32) then (0 : Int32) else 1)), .val (.ref b1), .val (.long (0 : Int64)), .second, .val (.long (if (flags &&& (1 : Int32)) = (0 : Int32) then (0 : Int64) else (1 : Int64))), .second, .val (.long ((1 : Int64) - (if (flags &&& (1 : Int32)) = (0 : Int32) then (0 : Int64) else (1 : Int64)))), .second, .val (.int (1 : Int32)), .val (.long (((if (flags &&& (1 : Int32)) = (0 : Int32) then (0 : Int64) else (1 : Int64)) + (if (flags &&& (2 : Int32)) = (0 : Int32) then (0 : Int64) else (1 : Int64))) + (if (flags &&& (4 : Int32)) = (0 : Int32) then (0 : Int64) else (1 : Int64)))), .second, .val (.long ((3 : Int64) - (((if (flags &&& (1 : Int32)) = (0 : Int32) then (0 : Int64) else (1 : Int64)) + (if (flags &&& (2 : Int32)) = (0 : Int32) then (0 : Int64) else (1 : Int64))) + (if (flags &&& (4 : Int32)) = (0 : Int32) then (0 : Int64) else (1 : Int64))))), .second] [(.long (0 : Int64)), (.long (3 : Int64)), (.long (((own_al (if (flags &&& (4 : Int32)) = (0 : Int32) then (0 : Int32) else 1) (own_al (if (flags &&& (2 : Int32)) = (0 : Int32) then (0 : Int32) else 1) (own_al (if (flags &&& (1 : Int32)) = (0 : Int32) then (0 : Int32) else 1) (0 : Int64)))) + (own_de (if (flags &&& (4 : Int32)) = (0 : Int32) then (0 : Int32) else 1) (own_de (if (flags &&& (2 : Int32)) = (0 : Int32) then (0 : Int32) else 1) (own_de (if (flags &&& (1 : Int32)) = (0 : Int32) then (0 : Int32) else 1) (0 : Int64))))) + (0 : Int64)))])) t_
      refine XS.ladd X11.here hx rfl (hb hby at_238) rfl ?_
      show Steps p_.tables e_ below (T11.setTop (mkF m_ 239 #[.val (.int flags), .val (.long line), .second, .val (.int (if (flags &&& (1 : Int32)) = (0 : Int32) then (0 : Int32) else 1)), .val (.int (if (flags &&& (2 : Int32)) = (0 : Int32) then (0 : Int32) else 1)), .val (.int (if (flags &&& (4 : Int32)) = (0 : Int32) then (0 : Int32) else 1)), .val (.int (if (flags &&& (8 : Int32)) = (0 : Int32) then (0 : Int32) else 1)), .val (.ref b1), .val (.long (0 : Int64)), .second, .val (.long (if (flags &&& (1 : Int32)) = (0 : Int32) then (0 : Int64) else (1 : Int64))), .second, .val (.long ((1 : Int64) - (if (flags &&& (1 : Int32)) = (0 : Int32) then (0 : Int64) else (1 : Int64)))), .second, .val (.int (1 : Int32)), .val (.long (((if (flags &&& (1 : Int32)) = (0 : Int32) then (0 : Int64) else (1 : Int64)) + (if (flags &&& (2 : Int32)) = (0 : Int32) then (0 : Int64) else (1 : Int64))) + (if (flags &&& (4 : Int32)) = (0 : Int32) then (0 : Int64) else (1 : Int64)))), .second, .val (.long ((3 : Int64) - (((if (flags &&& (1 : Int32)) = (0 : Int32) then (0 : Int64) else (1 : Int64)) + (if (flags &&& (2 : Int32)) = (0 : Int32) then (0 : Int64) else (1 : Int64))) + (if (flags &&& (4 : Int32)) = (0 : Int32) then (0 : Int64) else (1 : Int64))))), .second] [(.long ((3 : Int64) + (0 : Int64))), (.long (((own_al (if (flags &&& (4 : Int32)) = (0 : Int32) then (0 : Int32) else 1) (own_al (if (flags &&& (2 : Int32)) = (0 : Int32) then (0 : Int32) else 1) (own_al (if (flags &&& (1 : Int32)) = (0 : Int32) then (0 : Int32) else 1) (0 : Int64)))) + (own_de (if (flags &&& (4 : Int32)) = (0 : Int32) then (0 : Int32) else 1) (own_de (if (flags &&& (2 : Int32)) = (0 : Int32) then (0 : Int32) else 1) (own_de (if (flags &&& (1 : Int32)) = (0 : Int32) then (0 : Int32) else 1) (0 : Int64))))) + (0 : Int64)))])) t_
      refine XS.lcmp X11.here hx rfl (hb hby at_239) rfl ?_
      show Steps p_.tables e_ below (T11.setTop (mkF m_ 240 #[.val (.int flags), .val (.long line), .second, .val (.int (if (flags &&& (1 : Int32)) = (0 : Int32) then (0 : Int32) else 1)), .val (.int (if (flags &&& (2 : Int32)) = (0 : Int32) then (0 : Int32) else 1)), .val (.int (if (flags &&& (4 : Int32)) = (0 : Int32) then (0 : Int32) else 1)), .val (.int (if (flags &&& (8 : Int32)) = (0 : Int32) then (0 : Int32) else 1)), .val (.ref b1), .val (.long (0 : Int64)), .second, .val (.long (if (flags &&& (1 : Int32)) = (0 : Int32) then (0 : Int64) else (1 : Int64))), .second, .val (.long ((1 : Int64) - (if (flags &&& (1 : Int32)) = (0 : Int32) then (0 : Int64) else (1 : Int64)))), .second, .val (.int (1 : Int32)), .val (.long (((if (flags &&& (1 : Int32)) = (0 : Int32) then (0 : Int64) else (1 : Int64)) + (if (flags &&& (2 : Int32)) = (0 : Int32) then (0 : Int64) else (1 : Int64))) + (if (flags &&& (4 : Int32)) = (0 : Int32) then (0 : Int64) else (1 : Int64)))), .second, .val (.long ((3 : Int64) - (((if (flags &&& (1 : Int32)) = (0 : Int32) then (0 : Int64) else (1 : Int64)) + (if (flags &&& (2 : Int32)) = (0 : Int32) then (0 : Int64) else (1 : Int64))) + (if (flags &&& (4 : Int32)) = (0 : Int32) then (0 : Int64) else (1 : Int64))))), .second] [(.int (lcmpW (((own_al (if (flags &&& (4 : Int32)) = (0 : Int32) then (0 : Int32) else 1) (own_al (if (flags &&& (2 : Int32)) = (0 : Int32) then (0 : Int32) else 1) (own_al (if (flags &&& (1 : Int32)) = (0 : Int32) then (0 : Int32) else 1) (0 : Int64)))) + (own_de (if (flags &&& (4 : Int32)) = (0 : Int32) then (0 : Int32) else 1) (own_de (if (flags &&& (2 : Int32)) = (0 : Int32) then (0 : Int32) else 1) (own_de (if (flags &&& (1 : Int32)) = (0 : Int32) then (0 : Int32) else 1) (0 : Int64))))) + (0 : Int64)) ((3 : Int64) + (0 : Int64))))])) t_
      refine XS.ifNo X11.here hx rfl (hb hby at_240) rfl ((if0 _ _).trans (teq ((lw_eq (((own_al (if (flags &&& (4 : Int32)) = (0 : Int32) then (0 : Int32) else 1) (own_al (if (flags &&& (2 : Int32)) = (0 : Int32) then (0 : Int32) else 1) (own_al (if (flags &&& (1 : Int32)) = (0 : Int32) then (0 : Int32) else 1) (0 : Int64)))) + (own_de (if (flags &&& (4 : Int32)) = (0 : Int32) then (0 : Int32) else 1) (own_de (if (flags &&& (2 : Int32)) = (0 : Int32) then (0 : Int32) else 1) (own_de (if (flags &&& (1 : Int32)) = (0 : Int32) then (0 : Int32) else 1) (0 : Int64))))) + (0 : Int64)) ((3 : Int64) + (0 : Int64))).mpr (by by_cases q0 : (flags &&& (1 : Int32)) = (0 : Int32) <;> by_cases q1 : (flags &&& (2 : Int32)) = (0 : Int32) <;> by_cases q2 : (flags &&& (4 : Int32)) = (0 : Int32) <;> (try simp only [own_al, own_de, q0, q1, q2, if_true, if_false]) <;> decide : (((own_al (if (flags &&& (4 : Int32)) = (0 : Int32) then (0 : Int32) else 1) (own_al (if (flags &&& (2 : Int32)) = (0 : Int32) then (0 : Int32) else 1) (own_al (if (flags &&& (1 : Int32)) = (0 : Int32) then (0 : Int32) else 1) (0 : Int64)))) + (own_de (if (flags &&& (4 : Int32)) = (0 : Int32) then (0 : Int32) else 1) (own_de (if (flags &&& (2 : Int32)) = (0 : Int32) then (0 : Int32) else 1) (own_de (if (flags &&& (1 : Int32)) = (0 : Int32) then (0 : Int32) else 1) (0 : Int64))))) + (0 : Int64)) = ((3 : Int64) + (0 : Int64))))).2) ?_
      show Steps p_.tables e_ below (T11.setTop (mkF m_ 243 #[.val (.int flags), .val (.long line), .second, .val (.int (if (flags &&& (1 : Int32)) = (0 : Int32) then (0 : Int32) else 1)), .val (.int (if (flags &&& (2 : Int32)) = (0 : Int32) then (0 : Int32) else 1)), .val (.int (if (flags &&& (4 : Int32)) = (0 : Int32) then (0 : Int32) else 1)), .val (.int (if (flags &&& (8 : Int32)) = (0 : Int32) then (0 : Int32) else 1)), .val (.ref b1), .val (.long (0 : Int64)), .second, .val (.long (if (flags &&& (1 : Int32)) = (0 : Int32) then (0 : Int64) else (1 : Int64))), .second, .val (.long ((1 : Int64) - (if (flags &&& (1 : Int32)) = (0 : Int32) then (0 : Int64) else (1 : Int64)))), .second, .val (.int (1 : Int32)), .val (.long (((if (flags &&& (1 : Int32)) = (0 : Int32) then (0 : Int64) else (1 : Int64)) + (if (flags &&& (2 : Int32)) = (0 : Int32) then (0 : Int64) else (1 : Int64))) + (if (flags &&& (4 : Int32)) = (0 : Int32) then (0 : Int64) else (1 : Int64)))), .second, .val (.long ((3 : Int64) - (((if (flags &&& (1 : Int32)) = (0 : Int32) then (0 : Int64) else (1 : Int64)) + (if (flags &&& (2 : Int32)) = (0 : Int32) then (0 : Int64) else (1 : Int64))) + (if (flags &&& (4 : Int32)) = (0 : Int32) then (0 : Int64) else (1 : Int64))))), .second] [])) t_
      refine XS.iconst X11.here hx rfl (hb hby at_243) ?_
      show Steps p_.tables e_ below (T11.setTop (mkF m_ 244 #[.val (.int flags), .val (.long line), .second, .val (.int (if (flags &&& (1 : Int32)) = (0 : Int32) then (0 : Int32) else 1)), .val (.int (if (flags &&& (2 : Int32)) = (0 : Int32) then (0 : Int32) else 1)), .val (.int (if (flags &&& (4 : Int32)) = (0 : Int32) then (0 : Int32) else 1)), .val (.int (if (flags &&& (8 : Int32)) = (0 : Int32) then (0 : Int32) else 1)), .val (.ref b1), .val (.long (0 : Int64)), .second, .val (.long (if (flags &&& (1 : Int32)) = (0 : Int32) then (0 : Int64) else (1 : Int64))), .second, .val (.long ((1 : Int64) - (if (flags &&& (1 : Int32)) = (0 : Int32) then (0 : Int64) else (1 : Int64)))), .second, .val (.int (1 : Int32)), .val (.long (((if (flags &&& (1 : Int32)) = (0 : Int32) then (0 : Int64) else (1 : Int64)) + (if (flags &&& (2 : Int32)) = (0 : Int32) then (0 : Int64) else (1 : Int64))) + (if (flags &&& (4 : Int32)) = (0 : Int32) then (0 : Int64) else (1 : Int64)))), .second, .val (.long ((3 : Int64) - (((if (flags &&& (1 : Int32)) = (0 : Int32) then (0 : Int64) else (1 : Int64)) + (if (flags &&& (2 : Int32)) = (0 : Int32) then (0 : Int64) else (1 : Int64))) + (if (flags &&& (4 : Int32)) = (0 : Int32) then (0 : Int64) else (1 : Int64))))), .second] [(.int (1 : Int32))])) t_
      refine XS.goto X11.here hx rfl (pc0 := 244) (pc' := 248) rfl (hb hby at_244) (by decide) (by decide) ?_
      show Steps p_.tables e_ below (T11.setTop (mkF m_ 248 #[.val (.int flags), .val (.long line), .second, .val (.int (if (flags &&& (1 : Int32)) = (0 : Int32) then (0 : Int32) else 1)), .val (.int (if (flags &&& (2 : Int32)) = (0 : Int32) then (0 : Int32) else 1)), .val (.int (if (flags &&& (4 : Int32)) = (0 : Int32) then (0 : Int32) else 1)), .val (.int (if (flags &&& (8 : Int32)) = (0 : Int32) then (0 : Int32) else 1)), .val (.ref b1), .val (.long (0 : Int64)), .second, .val (.long (if (flags &&& (1 : Int32)) = (0 : Int32) then (0 : Int64) else (1 : Int64))), .second, .val (.long ((1 : Int64) - (if (flags &&& (1 : Int32)) = (0 : Int32) then (0 : Int64) else (1 : Int64)))), .second, .val (.int (1 : Int32)), .val (.long (((if (flags &&& (1 : Int32)) = (0 : Int32) then (0 : Int64) else (1 : Int64)) + (if (flags &&& (2 : Int32)) = (0 : Int32) then (0 : Int64) else (1 : Int64))) + (if (flags &&& (4 : Int32)) = (0 : Int32) then (0 : Int64) else (1 : Int64)))), .second, .val (.long ((3 : Int64) - (((if (flags &&& (1 : Int32)) = (0 : Int32) then (0 : Int64) else (1 : Int64)) + (if (flags &&& (2 : Int32)) = (0 : Int32) then (0 : Int64) else (1 : Int64))) + (if (flags &&& (4 : Int32)) = (0 : Int32) then (0 : Int64) else (1 : Int64))))), .second] [(.int (1 : Int32))])) t_
      exact k_
    refine own_retN X11 hx hlk (t := .boolean) hret (by simp) (hb hby at_248) (by decide) (by decide) ?_
    exact ⟨rfl, N11⟩
  · refine own_st T2 (mkF m_ 69 #[.val (.int flags), .val (.long line), .second, .val (.int (if (flags &&& (1 : Int32)) = (0 : Int32) then (0 : Int32) else 1)), .val (.int (if (flags &&& (2 : Int32)) = (0 : Int32) then (0 : Int32) else 1)), .val (.int (if (flags &&& (4 : Int32)) = (0 : Int32) then (0 : Int32) else 1)), .val (.int (if (flags &&& (8 : Int32)) = (0 : Int32) then (0 : Int32) else 1)), .val (.ref b1), .val (.long (0 : Int64)), .second, .unset, .unset, .unset, .unset, .unset, .unset, .unset, .unset, .unset] []) (fun t_ k_ => XS.ifNo X2.here hx rfl (hb hby at_66) rfl ((if0 _ _).trans (feq (own_nf hc66)).1) k_) ?_
    refine own_st T2 (mkF m_ 81 #[.val (.int flags), .val (.long line), .second, .val (.int (if (flags &&& (1 : Int32)) = (0 : Int32) then (0 : Int32) else 1)), .val (.int (if (flags &&& (2 : Int32)) = (0 : Int32) then (0 : Int32) else 1)), .val (.int (if (flags &&& (4 : Int32)) = (0 : Int32) then (0 : Int32) else 1)), .val (.int (if (flags &&& (8 : Int32)) = (0 : Int32) then (0 : Int32) else 1)), .val (.ref b1), .val (.long (0 : Int64)), .second, .unset, .unset, .unset, .unset, .unset, .unset, .unset, .unset, .unset] [(.int ((((flags.toUInt32 >>> ((8 : Int32) &&& 31).toUInt32).toInt32) &&& (255 : Int32)).toUInt32.toUInt16.toUInt32.toInt32)), (.long line), (.ref b1)]) (fun t_ k_ => ?_) ?_
    · refine XS.aload X2.here hx rfl (hb hby at_69) rfl rfl ?_
      show Steps p_.tables e_ below (T2.setTop (mkF m_ 71 #[.val (.int flags), .val (.long line), .second, .val (.int (if (flags &&& (1 : Int32)) = (0 : Int32) then (0 : Int32) else 1)), .val (.int (if (flags &&& (2 : Int32)) = (0 : Int32) then (0 : Int32) else 1)), .val (.int (if (flags &&& (4 : Int32)) = (0 : Int32) then (0 : Int32) else 1)), .val (.int (if (flags &&& (8 : Int32)) = (0 : Int32) then (0 : Int32) else 1)), .val (.ref b1), .val (.long (0 : Int64)), .second, .unset, .unset, .unset, .unset, .unset, .unset, .unset, .unset, .unset] [(.ref b1)])) t_
      refine XS.lloadN X2.here hx rfl (hb hby at_71) rfl ?_
      show Steps p_.tables e_ below (T2.setTop (mkF m_ 72 #[.val (.int flags), .val (.long line), .second, .val (.int (if (flags &&& (1 : Int32)) = (0 : Int32) then (0 : Int32) else 1)), .val (.int (if (flags &&& (2 : Int32)) = (0 : Int32) then (0 : Int32) else 1)), .val (.int (if (flags &&& (4 : Int32)) = (0 : Int32) then (0 : Int32) else 1)), .val (.int (if (flags &&& (8 : Int32)) = (0 : Int32) then (0 : Int32) else 1)), .val (.ref b1), .val (.long (0 : Int64)), .second, .unset, .unset, .unset, .unset, .unset, .unset, .unset, .unset, .unset] [(.long line), (.ref b1)])) t_
      refine XS.iloadN X2.here hx rfl (hb hby at_72) rfl ?_
      show Steps p_.tables e_ below (T2.setTop (mkF m_ 73 #[.val (.int flags), .val (.long line), .second, .val (.int (if (flags &&& (1 : Int32)) = (0 : Int32) then (0 : Int32) else 1)), .val (.int (if (flags &&& (2 : Int32)) = (0 : Int32) then (0 : Int32) else 1)), .val (.int (if (flags &&& (4 : Int32)) = (0 : Int32) then (0 : Int32) else 1)), .val (.int (if (flags &&& (8 : Int32)) = (0 : Int32) then (0 : Int32) else 1)), .val (.ref b1), .val (.long (0 : Int64)), .second, .unset, .unset, .unset, .unset, .unset, .unset, .unset, .unset, .unset] [(.int flags), (.long line), (.ref b1)])) t_
      refine XS.bipush X2.here hx rfl (hb hby at_73) ?_
      show Steps p_.tables e_ below (T2.setTop (mkF m_ 75 #[.val (.int flags), .val (.long line), .second, .val (.int (if (flags &&& (1 : Int32)) = (0 : Int32) then (0 : Int32) else 1)), .val (.int (if (flags &&& (2 : Int32)) = (0 : Int32) then (0 : Int32) else 1)), .val (.int (if (flags &&& (4 : Int32)) = (0 : Int32) then (0 : Int32) else 1)), .val (.int (if (flags &&& (8 : Int32)) = (0 : Int32) then (0 : Int32) else 1)), .val (.ref b1), .val (.long (0 : Int64)), .second, .unset, .unset, .unset, .unset, .unset, .unset, .unset, .unset, .unset] [(.int (8 : Int32)), (.int flags), (.long line), (.ref b1)])) t_
      refine XS.iushr X2.here hx rfl (hb hby at_75) rfl ?_
      show Steps p_.tables e_ below (T2.setTop (mkF m_ 76 #[.val (.int flags), .val (.long line), .second, .val (.int (if (flags &&& (1 : Int32)) = (0 : Int32) then (0 : Int32) else 1)), .val (.int (if (flags &&& (2 : Int32)) = (0 : Int32) then (0 : Int32) else 1)), .val (.int (if (flags &&& (4 : Int32)) = (0 : Int32) then (0 : Int32) else 1)), .val (.int (if (flags &&& (8 : Int32)) = (0 : Int32) then (0 : Int32) else 1)), .val (.ref b1), .val (.long (0 : Int64)), .second, .unset, .unset, .unset, .unset, .unset, .unset, .unset, .unset, .unset] [(.int ((flags.toUInt32 >>> ((8 : Int32) &&& 31).toUInt32).toInt32)), (.long line), (.ref b1)])) t_
      refine XS.sipush X2.here hx rfl (hb hby at_76) ?_
      show Steps p_.tables e_ below (T2.setTop (mkF m_ 79 #[.val (.int flags), .val (.long line), .second, .val (.int (if (flags &&& (1 : Int32)) = (0 : Int32) then (0 : Int32) else 1)), .val (.int (if (flags &&& (2 : Int32)) = (0 : Int32) then (0 : Int32) else 1)), .val (.int (if (flags &&& (4 : Int32)) = (0 : Int32) then (0 : Int32) else 1)), .val (.int (if (flags &&& (8 : Int32)) = (0 : Int32) then (0 : Int32) else 1)), .val (.ref b1), .val (.long (0 : Int64)), .second, .unset, .unset, .unset, .unset, .unset, .unset, .unset, .unset, .unset] [(.int (255 : Int32)), (.int ((flags.toUInt32 >>> ((8 : Int32) &&& 31).toUInt32).toInt32)), (.long line), (.ref b1)])) t_
      refine XS.iand X2.here hx rfl (hb hby at_79) rfl ?_
      show Steps p_.tables e_ below (T2.setTop (mkF m_ 80 #[.val (.int flags), .val (.long line), .second, .val (.int (if (flags &&& (1 : Int32)) = (0 : Int32) then (0 : Int32) else 1)), .val (.int (if (flags &&& (2 : Int32)) = (0 : Int32) then (0 : Int32) else 1)), .val (.int (if (flags &&& (4 : Int32)) = (0 : Int32) then (0 : Int32) else 1)), .val (.int (if (flags &&& (8 : Int32)) = (0 : Int32) then (0 : Int32) else 1)), .val (.ref b1), .val (.long (0 : Int64)), .second, .unset, .unset, .unset, .unset, .unset, .unset, .unset, .unset, .unset] [(.int (((flags.toUInt32 >>> ((8 : Int32) &&& 31).toUInt32).toInt32) &&& (255 : Int32))), (.long line), (.ref b1)])) t_
      refine XS.i2c X2.here hx rfl (hb hby at_80) rfl ?_
      show Steps p_.tables e_ below (T2.setTop (mkF m_ 81 #[.val (.int flags), .val (.long line), .second, .val (.int (if (flags &&& (1 : Int32)) = (0 : Int32) then (0 : Int32) else 1)), .val (.int (if (flags &&& (2 : Int32)) = (0 : Int32) then (0 : Int32) else 1)), .val (.int (if (flags &&& (4 : Int32)) = (0 : Int32) then (0 : Int32) else 1)), .val (.int (if (flags &&& (8 : Int32)) = (0 : Int32) then (0 : Int32) else 1)), .val (.ref b1), .val (.long (0 : Int64)), .second, .unset, .unset, .unset, .unset, .unset, .unset, .unset, .unset, .unset] [(.int ((((flags.toUInt32 >>> ((8 : Int32) &&& 31).toUInt32).toInt32) &&& (255 : Int32)).toUInt32.toUInt16.toUInt32.toInt32)), (.long line), (.ref b1)])) t_
      exact k_
    refine own_callS X2 hx hZ hown (hw _ (List.mem_of_getElem? (i := 67) rfl)) (hw _ (List.mem_of_getElem? (i := 68) rfl)) (hw _ (List.mem_of_getElem? (i := 69) rfl)) (hw _ (List.mem_of_getElem? (i := 70) rfl)) (by decide) [(.int ((((flags.toUInt32 >>> ((8 : Int32) &&& 31).toUInt32).toInt32) &&& (255 : Int32)).toUInt32.toUInt16.toUInt32.toInt32))] [(.long line), (.ref b1)] (rm11 l Z a0 hw ((((flags.toUInt32 >>> ((8 : Int32) &&& 31).toUInt32).toInt32) &&& (255 : Int32)).toUInt32.toUInt16.toUInt32.toInt32) cs T2.heap n0 Z0 (S_CS.ext O.2) hcs (own_ch flags)) 3 (by decide) (by decide) rfl (by rw [hml]; rfl) (lenOf own_pd13 rfl) rfl (Nat.le_of_eq rfl) (hb hby at_81) (by decide) (by decide) ?_
    intro v12 T12 L12 X12 q12
    obtain ⟨x12, rfl, g_x12, sz12, N12q, K12⟩ := q12
    have N12 := Fr.app N2 N12q
    replace O := O.keep K12 all0
    replace E_b1 := E_b1.keep K12
    replace F_allowed_b1 := F_allowed_b1.keep K12 nin0
    replace F_denied_b1 := F_denied_b1.keep K12 nin0
    replace F_rejected_b1 := F_rejected_b1.keep K12 nin0
    replace F_rejections_b1 := F_rejections_b1.keep K12 nin0
    replace E_y2 := E_y2.keep K12
    replace F_modCount_y2 := F_modCount_y2.keep K12 nin0
    replace F_elementData_y2 := F_elementData_y2.keep K12 nin0
    replace F_size_y2 := F_size_y2.keep K12 nin0
    replace Z0 : n0 ≤ T12.heap.size := Nat.le_trans Z0 K12.1
    show own_Out p_ e_ below s_ _ _ _ T12 (mkF m_ 84 #[.val (.int flags), .val (.long line), .second, .val (.int (if (flags &&& (1 : Int32)) = (0 : Int32) then (0 : Int32) else 1)), .val (.int (if (flags &&& (2 : Int32)) = (0 : Int32) then (0 : Int32) else 1)), .val (.int (if (flags &&& (4 : Int32)) = (0 : Int32) then (0 : Int32) else 1)), .val (.int (if (flags &&& (8 : Int32)) = (0 : Int32) then (0 : Int32) else 1)), .val (.ref b1), .val (.long (0 : Int64)), .second, .unset, .unset, .unset, .unset, .unset, .unset, .unset, .unset, .unset] [(.ref x12), (.long line), (.ref b1)])
    refine own_callV X12 hx hZ (y := (⟨"com/example/keep_count/keepcount/api/BatchResult", "rejected", "(JLjava/lang/String;)V"⟩ : MethodName)) (z := (⟨"com/example/keep_count/keepcount/api/BatchResult", "rejected", "(JLjava/lang/String;)V"⟩ : MethodName)) hown (hw _ (List.mem_of_getElem? (i := 91) rfl)) (hw _ (List.mem_of_getElem? (i := 92) rfl)) (notFace_of_selects (args := #[]) (mvT hZ (hw _ (List.mem_of_getElem? (i := 94) rfl)))) (hw _ (List.mem_of_getElem? (i := 94) rfl)) (hw _ (List.mem_of_getElem? (i := 93) rfl)) (hw _ (List.mem_of_getElem? (i := 2) rfl)) (hw _ (List.mem_of_getElem? (i := 95) rfl)) (by decide) b1 [(.long line), (.ref x12)] [] E_b1 (rm15 l Z a0 hw b1 line x12 de y2 kd (0 : Int64) (0 : Int64) (0 : Int64) T12.heap n0 Z0 O S_D A_de E_b1 F_allowed_b1 F_denied_b1 F_rejected_b1 F_rejections_b1 E_y2 F_modCount_y2 F_elementData_y2 F_size_y2 g_b1 g_y2 ne_y2_b1) 0 (by decide) (by decide) rfl (by rw [hml]; rfl) (lenOf own_pd9 rfl) rfl (Nat.le_of_eq rfl) (hb hby at_84) (by decide) (by decide) ?_
    intro v13 T13 L13 X13 q13
    obtain ⟨rfl, N13q, K13, Fq1, Fq2, Fq3⟩ := q13
    have N13 := Fr.app N12 N13q
    replace O := O.keep K13 (allS g_b1 (allS g_y2 all0))
    replace E_b1 := E_b1.keep K13
    -- F_allowed_b1 is dropped: written by the callee
    -- F_denied_b1 is dropped: written by the callee
    -- F_rejected_b1 is dropped: written by the callee
    -- F_rejections_b1 is dropped: written by the callee
    replace Z0 : n0 ≤ T13.heap.size := Nat.le_trans Z0 K13.1
    have F_allowed_b1 := Fq1
    have F_denied_b1 := Fq2
    have F_rejected_b1 := Fq3
    show own_Out p_ e_ below s_ _ _ _ T13 (mkF m_ 87 #[.val (.int flags), .val (.long line), .second, .val (.int (if (flags &&& (1 : Int32)) = (0 : Int32) then (0 : Int32) else 1)), .val (.int (if (flags &&& (2 : Int32)) = (0 : Int32) then (0 : Int32) else 1)), .val (.int (if (flags &&& (4 : Int32)) = (0 : Int32) then (0 : Int32) else 1)), .val (.int (if (flags &&& (8 : Int32)) = (0 : Int32) then (0 : Int32) else 1)), .val (.ref b1), .val (.long (0 : Int64)), .second, .unset, .unset, .unset, .unset, .unset, .unset, .unset, .unset, .unset] [])
    refine own_st T13 (mkF m_ 93 #[.val (.int flags), .val (.long line), .second, .val (.int (if (flags &&& (1 : Int32)) = (0 : Int32) then (0 : Int32) else 1)), .val (.int (if (flags &&& (2 : Int32)) = (0 : Int32) then (0 : Int32) else 1)), .val (.int (if (flags &&& (4 : Int32)) = (0 : Int32) then (0 : Int32) else 1)), .val (.int (if (flags &&& (8 : Int32)) = (0 : Int32) then (0 : Int32) else 1)), .val (.ref b1), .val (.long (1 : Int64)), .second, .unset, .unset, .unset, .unset, .unset, .unset, .unset, .unset, .unset] [(.int (if (flags &&& (1 : Int32)) = (0 : Int32) then (0 : Int32) else 1)), (.ref b1)]) (fun t_ k_ => ?_) ?_
    · refine XS.lconst X13.here hx rfl (hb hby at_87) ?_
      show Steps p_.tables e_ below (T13.setTop (mkF m_ 88 #[.val (.int flags), .val (.long line), .second, .val (.int (if (flags &&& (1 : Int32)) = (0 : Int32) then (0 : Int32) else 1)), .val (.int (if (flags &&& (2 : Int32)) = (0 : Int32) then (0 : Int32) else 1)), .val (.int (if (flags &&& (4 : Int32)) = (0 : Int32) then (0 : Int32) else 1)), .val (.int (if (flags &&& (8 : Int32)) = (0 : Int32) then (0 : Int32) else 1)), .val (.ref b1), .val (.long (0 : Int64)), .second, .unset, .unset, .unset, .unset, .unset, .unset, .unset, .unset, .unset] [(.long (1 : Int64))])) t_
      refine XS.lstore X13.here hx rfl (hb hby at_88) rfl (l' := #[.val (.int flags), .val (.long line), .second, .val (.int (if (flags &&& (1 : Int32)) = (0 : Int32) then (0 : Int32) else 1)), .val (.int (if (flags &&& (2 : Int32)) = (0 : Int32) then (0 : Int32) else 1)), .val (.int (if (flags &&& (4 : Int32)) = (0 : Int32) then (0 : Int32) else 1)), .val (.int (if (flags &&& (8 : Int32)) = (0 : Int32) then (0 : Int32) else 1)), .val (.ref b1), .val (.long (1 : Int64)), .second, .unset, .unset, .unset, .unset, .unset, .unset, .unset, .unset, .unset]) rfl ?_
      show Steps p_.tables e_ below (T13.setTop (mkF m_ 90 #[.val (.int flags), .val (.long line), .second, .val (.int (if (flags &&& (1 : Int32)) = (0 : Int32) then (0 : Int32) else 1)), .val (.int (if (flags &&& (2 : Int32)) = (0 : Int32) then (0 : Int32) else 1)), .val (.int (if (flags &&& (4 : Int32)) = (0 : Int32) then (0 : Int32) else 1)), .val (.int (if (flags &&& (8 : Int32)) = (0 : Int32) then (0 : Int32) else 1)), .val (.ref b1), .val (.long (1 : Int64)), .second, .unset, .unset, .unset, .unset, .unset, .unset, .unset, .unset, .unset] [])) t_
      refine XS.aload X13.here hx rfl (hb hby at_90) rfl rfl ?_
      show Steps p_.tables e_ below (T13.setTop (mkF m_ 92 #[.val (.int flags), .val (.long line), .second, .val (.int (if (flags &&& (1 : Int32)) = (0 : Int32) then (0 : Int32) else 1)), .val (.int (if (flags &&& (2 : Int32)) = (0 : Int32) then (0 : Int32) else 1)), .val (.int (if (flags &&& (4 : Int32)) = (0 : Int32) then (0 : Int32) else 1)), .val (.int (if (flags &&& (8 : Int32)) = (0 : Int32) then (0 : Int32) else 1)), .val (.ref b1), .val (.long (1 : Int64)), .second, .unset, .unset, .unset, .unset, .unset, .unset, .unset, .unset, .unset] [(.ref b1)])) t_
      refine XS.iloadN X13.here hx rfl (hb hby at_92) rfl ?_
      show Steps p_.tables e_ below (T13.setTop (mkF m_ 93 #[.val (.int flags), .val (.long line), .second, .val (.int (if (flags &&& (1 : Int32)) = (0 : Int32) then (0 : Int32) else 1)), .val (.int (if (flags &&& (2 : Int32)) = (0 : Int32) then (0 : Int32) else 1)), .val (.int (if (flags &&& (4 : Int32)) = (0 : Int32) then (0 : Int32) else 1)), .val (.int (if (flags &&& (8 : Int32)) = (0 : Int32) then (0 : Int32) else 1)), .val (.ref b1), .val (.long (1 : Int64)), .second, .unset, .unset, .unset, .unset, .unset, .unset, .unset, .unset, .unset] [(.int (if (flags &&& (1 : Int32)) = (0 : Int32) then (0 : Int32) else 1)), (.ref b1)])) t_
      exact k_
    refine own_callV X13 hx hZ (y := (⟨"com/example/keep_count/keepcount/api/BatchResult", "checked", "(Z)V"⟩ : MethodName)) (z := (⟨"com/example/keep_count/keepcount/api/BatchResult", "checked", "(Z)V"⟩ : MethodName)) hown (hw _ (List.mem_of_getElem? (i := 35) rfl)) (hw _ (List.mem_of_getElem? (i := 36) rfl)) (notFace_of_selects (args := #[]) (mvT hZ (hw _ (List.mem_of_getElem? (i := 38) rfl)))) (hw _ (List.mem_of_getElem? (i := 38) rfl)) (hw _ (List.mem_of_getElem? (i := 37) rfl)) (hw _ (List.mem_of_getElem? (i := 2) rfl)) (hw _ (List.mem_of_getElem? (i := 39) rfl)) (by decide) b1 [(.int (if (flags &&& (1 : Int32)) = (0 : Int32) then (0 : Int32) else 1))] [] E_b1 (rm6 l Z a0 hw b1 (if (flags &&& (1 : Int32)) = (0 : Int32) then (0 : Int32) else 1) (0 : Int64) (0 : Int64) ((0 : Int64) + (1 : Int64)) T13.heap n0 Z0 F_allowed_b1 F_denied_b1 F_rejected_b1 E_b1 g_b1) 0 (by decide) (by decide) rfl (by rw [hml]; rfl) (lenOf own_pd11 rfl) rfl (Nat.le_of_eq rfl) (hb hby at_93) (by decide) (by decide) ?_
    intro v14 T14 L14 X14 q14
    obtain ⟨rfl, N14q, K14, Fq1, Fq2, Fq3⟩ := q14
    have N14 := Fr.app N13 N14q
    replace E_b1 := E_b1.keep K14
    -- F_allowed_b1 is dropped: written by the callee
    -- F_denied_b1 is dropped: written by the callee
    -- F_rejected_b1 is dropped: written by the callee
    replace Z0 : n0 ≤ T14.heap.size := Nat.le_trans Z0 K14.1
    have F_allowed_b1 := Fq1
    have F_denied_b1 := Fq2
    have F_rejected_b1 := Fq3
    show own_Out p_ e_ below s_ _ _ _ T14 (mkF m_ 96 #[.val (.int flags), .val (.long line), .second, .val (.int (if (flags &&& (1 : Int32)) = (0 : Int32) then (0 : Int32) else 1)), .val (.int (if (flags &&& (2 : Int32)) = (0 : Int32) then (0 : Int32) else 1)), .val (.int (if (flags &&& (4 : Int32)) = (0 : Int32) then (0 : Int32) else 1)), .val (.int (if (flags &&& (8 : Int32)) = (0 : Int32) then (0 : Int32) else 1)), .val (.ref b1), .val (.long (1 : Int64)), .second, .unset, .unset, .unset, .unset, .unset, .unset, .unset, .unset, .unset] [])
    refine own_st T14 (mkF m_ 115 #[.val (.int flags), .val (.long line), .second, .val (.int (if (flags &&& (1 : Int32)) = (0 : Int32) then (0 : Int32) else 1)), .val (.int (if (flags &&& (2 : Int32)) = (0 : Int32) then (0 : Int32) else 1)), .val (.int (if (flags &&& (4 : Int32)) = (0 : Int32) then (0 : Int32) else 1)), .val (.int (if (flags &&& (8 : Int32)) = (0 : Int32) then (0 : Int32) else 1)), .val (.ref b1), .val (.long (1 : Int64)), .second, .val (.long (if (flags &&& (1 : Int32)) = (0 : Int32) then (0 : Int64) else (1 : Int64))), .second, .val (.long ((1 : Int64) - (if (flags &&& (1 : Int32)) = (0 : Int32) then (0 : Int64) else (1 : Int64)))), .second, .unset, .unset, .unset, .unset, .unset] [(.ref b1)]) (fun t_ k_ => ?_) ?_
    · refine XS.iloadN X14.here hx rfl (hb hby at_96) rfl ?_
      show Steps p_.tables e_ below (T14.setTop (mkF m_ 97 #[.val (.int flags), .val (.long line), .second, .val (.int (if (flags &&& (1 : Int32)) = (0 : Int32) then (0 : Int32) else 1)), .val (.int (if (flags &&& (2 : Int32)) = (0 : Int32) then (0 : Int32) else 1)), .val (.int (if (flags &&& (4 : Int32)) = (0 : Int32) then (0 : Int32) else 1)), .val (.int (if (flags &&& (8 : Int32)) = (0 : Int32) then (0 : Int32) else 1)), .val (.ref b1), .val (.long (1 : Int64)), .second, .unset, .unset, .unset, .unset, .unset, .unset, .unset, .unset, .unset] [(.int (if (flags &&& (1 : Int32)) = (0 : Int32) then (0 : Int32) else 1))])) t_
      have jn97 : ∀ t_, Steps p_.tables e_ below (T14.setTop (mkF m_ 105 #[.val (.int flags), .val (.long line), .second, .val (.int (if (flags &&& (1 : Int32)) = (0 : Int32) then (0 : Int32) else 1)), .val (.int (if (flags &&& (2 : Int32)) = (0 : Int32) then (0 : Int32) else 1)), .val (.int (if (flags &&& (4 : Int32)) = (0 : Int32) then (0 : Int32) else 1)), .val (.int (if (flags &&& (8 : Int32)) = (0 : Int32) then (0 : Int32) else 1)), .val (.ref b1), .val (.long (1 : Int64)), .second, .unset, .unset, .unset, .unset, .unset, .unset, .unset, .unset, .unset] [(.long (if (flags &&& (1 : Int32)) = (0 : Int32) then (0 : Int64) else (1 : Int64)))])) t_ → Steps p_.tables e_ below (T14.setTop (mkF m_ 97 #[.val (.int flags), .val (.long line), .second, .val (.int (if (flags &&& (1 : Int32)) = (0 : Int32) then (0 : Int32) else 1)), .val (.int (if (flags &&& (2 : Int32)) = (0 : Int32) then (0 : Int32) else 1)), .val (.int (if (flags &&& (4 : Int32)) = (0 : Int32) then (0 : Int32) else 1)), .val (.int (if (flags &&& (8 : Int32)) = (0 : Int32) then (0 : Int32) else 1)), .val (.ref b1), .val (.long (1 : Int64)), .second, .unset, .unset, .unset, .unset, .unset, .unset, .unset, .unset, .unset] [(.int (if (flags &&& (1 : Int32)) = (0 : Int32) then (0 : Int32) else 1))])) t_ := by
        intro t_ k_
        by_cases hc97 : (flags &&& (1 : Int32)) = (0 : Int32)
        · refine XS.ifYes X14.here hx rfl (pc0 := 97) (pc' := 104) rfl (hb hby at_97) rfl ((if0 _ _).trans (teq (own_nt hc97)).1) (by decide) (by decide) ?_
          show Steps p_.tables e_ below (T14.setTop (mkF m_ 104 #[.val (.int flags), .val (.long line), .second, .val (.int (if (flags &&& (1 : Int32)) = (0 : Int32) then (0 : Int32) else 1)), .val (.int (if (flags &&& (2 : Int32)) = (0 : Int32) then (0 : Int32) else 1)), .val (.int (if (flags &&& (4 : Int32)) = (0 : Int32) then (0 : Int32) else 1)), .val (.int (if (flags &&& (8 : Int32)) = (0 : Int32) then (0 : Int32) else 1)), .val (.ref b1), .val (.long (1 : Int64)), .second, .unset, .unset, .unset, .unset, .unset, .unset, .unset, .unset, .unset] [])) t_
          refine XS.lconst X14.here hx rfl (hb hby at_104) ?_
          show Steps p_.tables e_ below (T14.setTop (mkF m_ 105 #[.val (.int flags), .val (.long line), .second, .val (.int (if (flags &&& (1 : Int32)) = (0 : Int32) then (0 : Int32) else 1)), .val (.int (if (flags &&& (2 : Int32)) = (0 : Int32) then (0 : Int32) else 1)), .val (.int (if (flags &&& (4 : Int32)) = (0 : Int32) then (0 : Int32) else 1)), .val (.int (if (flags &&& (8 : Int32)) = (0 : Int32) then (0 : Int32) else 1)), .val (.ref b1), .val (.long (1 : Int64)), .second, .unset, .unset, .unset, .unset, .unset, .unset, .unset, .unset, .unset] [(.long (0 : Int64))])) t_
          simp only [if_pos hc97] at k_ ⊢
          exact k_
        · refine XS.ifNo X14.here hx rfl (hb hby at_97) rfl ((if0 _ _).trans (feq (own_nf hc97)).1) ?_
          show Steps p_.tables e_ below (T14.setTop (mkF m_ 100 #[.val (.int flags), .val (.long line), .second, .val (.int (if (flags &&& (1 : Int32)) = (0 : Int32) then (0 : Int32) else 1)), .val (.int (if (flags &&& (2 : Int32)) = (0 : Int32) then (0 : Int32) else 1)), .val (.int (if (flags &&& (4 : Int32)) = (0 : Int32) then (0 : Int32) else 1)), .val (.int (if (flags &&& (8 : Int32)) = (0 : Int32) then (0 : Int32) else 1)), .val (.ref b1), .val (.long (1 : Int64)), .second, .unset, .unset, .unset, .unset, .unset, .unset, .unset, .unset, .unset] [])) t_
          refine XS.lconst X14.here hx rfl (hb hby at_100) ?_
          show Steps p_.tables e_ below (T14.setTop (mkF m_ 101 #[.val (.int flags), .val (.long line), .second, .val (.int (if (flags &&& (1 : Int32)) = (0 : Int32) then (0 : Int32) else 1)), .val (.int (if (flags &&& (2 : Int32)) = (0 : Int32) then (0 : Int32) else 1)), .val (.int (if (flags &&& (4 : Int32)) = (0 : Int32) then (0 : Int32) else 1)), .val (.int (if (flags &&& (8 : Int32)) = (0 : Int32) then (0 : Int32) else 1)), .val (.ref b1), .val (.long (1 : Int64)), .second, .unset, .unset, .unset, .unset, .unset, .unset, .unset, .unset, .unset] [(.long (1 : Int64))])) t_
          refine XS.goto X14.here hx rfl (pc0 := 101) (pc' := 105) rfl (hb hby at_101) (by decide) (by decide) ?_
          show Steps p_.tables e_ below (T14.setTop (mkF m_ 105 #[.val (.int flags), .val (.long line), .second, .val (.int (if (flags &&& (1 : Int32)) = (0 : Int32) then (0 : Int32) else 1)), .val (.int (if (flags &&& (2 : Int32)) = (0 : Int32) then (0 : Int32) else 1)), .val (.int (if (flags &&& (4 : Int32)) = (0 : Int32) then (0 : Int32) else 1)), .val (.int (if (flags &&& (8 : Int32)) = (0 : Int32) then (0 : Int32) else 1)), .val (.ref b1), .val (.long (1 : Int64)), .second, .unset, .unset, .unset, .unset, .unset, .unset, .unset, .unset, .unset] [(.long (1 : Int64))])) t_
          simp only [if_neg hc97] at k_ ⊢
          exact k_
      refine jn97 _ ?_
      show Steps p_.tables e_ below (T14.setTop (mkF m_ 105 #[.val (.int flags), .val (.long line), .second, .val (.int (if (flags &&& (1 : Int32)) = (0 : Int32) then (0 : Int32) else 1)), .val (.int (if (flags &&& (2 : Int32)) = (0 : Int32) then (0 : Int32) else 1)), .val (.int (if (flags &&& (4 : Int32)) = (0 : Int32) then (0 : Int32) else 1)), .val (.int (if (flags &&& (8 : Int32)) = (0 : Int32) then (0 : Int32) else 1)), .val (.ref b1), .val (.long (1 : Int64)), .second, .unset, .unset, .unset, .unset, .unset, .unset, .unset, .unset, .unset] [(.long (if (flags &&& (1 : Int32)) = (0 : Int32) then (0 : Int64) else (1 : Int64)))])) t_
      refine XS.lstore X14.here hx rfl (hb hby at_105) rfl (l' := #[.val (.int flags), .val (.long line), .second, .val (.int (if (flags &&& (1 : Int32)) = (0 : Int32) then (0 : Int32) else 1)), .val (.int (if (flags &&& (2 : Int32)) = (0 : Int32) then (0 : Int32) else 1)), .val (.int (if (flags &&& (4 : Int32)) = (0 : Int32) then (0 : Int32) else 1)), .val (.int (if (flags &&& (8 : Int32)) = (0 : Int32) then (0 : Int32) else 1)), .val (.ref b1), .val (.long (1 : Int64)), .second, .val (.long (if (flags &&& (1 : Int32)) = (0 : Int32) then (0 : Int64) else (1 : Int64))), .second, .unset, .unset, .unset, .unset, .unset, .unset, .unset]) rfl ?_
      show Steps p_.tables e_ below (T14.setTop (mkF m_ 107 #[.val (.int flags), .val (.long line), .second, .val (.int (if (flags &&& (1 : Int32)) = (0 : Int32) then (0 : Int32) else 1)), .val (.int (if (flags &&& (2 : Int32)) = (0 : Int32) then (0 : Int32) else 1)), .val (.int (if (flags &&& (4 : Int32)) = (0 : Int32) then (0 : Int32) else 1)), .val (.int (if (flags &&& (8 : Int32)) = (0 : Int32) then (0 : Int32) else 1)), .val (.ref b1), .val (.long (1 : Int64)), .second, .val (.long (if (flags &&& (1 : Int32)) = (0 : Int32) then (0 : Int64) else (1 : Int64))), .second, .unset, .unset, .unset, .unset, .unset, .unset, .unset] [])) t_
      refine XS.lconst X14.here hx rfl (hb hby at_107) ?_
      show Steps p_.tables e_ below (T14.setTop (mkF m_ 108 #[.val (.int flags), .val (.long line), .second, .val (.int (if (flags &&& (1 : Int32)) = (0 : Int32) then (0 : Int32) else 1)), .val (.int (if (flags &&& (2 : Int32)) = (0 : Int32) then (0 : Int32) else 1)), .val (.int (if (flags &&& (4 : Int32)) = (0 : Int32) then (0 : Int32) else 1)), .val (.int (if (flags &&& (8 : Int32)) = (0 : Int32) then (0 : Int32) else 1)), .val (.ref b1), .val (.long (1 : Int64)), .second, .val (.long (if (flags &&& (1 : Int32)) = (0 : Int32) then (0 : Int64) else (1 : Int64))), .second, .unset, .unset, .unset, .unset, .unset, .unset, .unset] [(.long (1 : Int64))])) t_
      refine XS.lload X14.here hx rfl (hb hby at_108) rfl ?_
      show Steps p_.tables e_ below (T14.setTop (mkF m_ 110 #[.val (.int flags), .val (.long line), .second, .val (.int (if (flags &&& (1 : Int32)) = (0 : Int32) then (0 : Int32) else 1)), .val (.int (if (flags &&& (2 : Int32)) = (0 : Int32) then (0 : Int32) else 1)), .val (.int (if (flags &&& (4 : Int32)) = (0 : Int32) then (0 : Int32) else 1)), .val (.int (if (flags &&& (8 : Int32)) = (0 : Int32) then (0 : Int32) else 1)), .val (.ref b1), .val (.long (1 : Int64)), .second, .val (.long (if (flags &&& (1 : Int32)) = (0 : Int32) then (0 : Int64) else (1 : Int64))), .second, .unset, .unset, .unset, .unset, .unset, .unset, .unset] [(.long (if (flags &&& (1 : Int32)) = (0 : Int32) then (0 : Int64) else (1 : Int64))), (.long (1 : Int64))])) t_
      refine XS.lsub X14.here hx rfl (hb hby at_110) rfl ?_
      show Steps p_.tables e_ below (T14.setTop (mkF m_ 111 #[.val (.int flags), .val (.long line), .second, .val (.int (if (flags &&& (1 : Int32)) = (0 : Int32) then (0 : Int32) else 1)), .val (.int (if (flags &&& (2 : Int32)) = (0 : Int32) then (0 : Int32) else 1)), .val (.int (if (flags &&& (4 : Int32)) = (0 : Int32) then (0 : Int32) else 1)), .val (.int (if (flags &&& (8 : Int32)) = (0 : Int32) then (0 : Int32) else 1)), .val (.ref b1), .val (.long (1 : Int64)), .second, .val (.long (if (flags &&& (1 : Int32)) = (0 : Int32) then (0 : Int64) else (1 : Int64))), .second, .unset, .unset, .unset, .unset, .unset, .unset, .unset] [(.long ((1 : Int64) - (if (flags &&& (1 : Int32)) = (0 : Int32) then (0 : Int64) else (1 : Int64))))])) t_
      refine XS.lstore X14.here hx rfl (hb hby at_111) rfl (l' := #[.val (.int flags), .val (.long line), .second, .val (.int (if (flags &&& (1 : Int32)) = (0 : Int32) then (0 : Int32) else 1)), .val (.int (if (flags &&& (2 : Int32)) = (0 : Int32) then (0 : Int32) else 1)), .val (.int (if (flags &&& (4 : Int32)) = (0 : Int32) then (0 : Int32) else 1)), .val (.int (if (flags &&& (8 : Int32)) = (0 : Int32) then (0 : Int32) else 1)), .val (.ref b1), .val (.long (1 : Int64)), .second, .val (.long (if (flags &&& (1 : Int32)) = (0 : Int32) then (0 : Int64) else (1 : Int64))), .second, .val (.long ((1 : Int64) - (if (flags &&& (1 : Int32)) = (0 : Int32) then (0 : Int64) else (1 : Int64)))), .second, .unset, .unset, .unset, .unset, .unset]) rfl ?_
      show Steps p_.tables e_ below (T14.setTop (mkF m_ 113 #[.val (.int flags), .val (.long line), .second, .val (.int (if (flags &&& (1 : Int32)) = (0 : Int32) then (0 : Int32) else 1)), .val (.int (if (flags &&& (2 : Int32)) = (0 : Int32) then (0 : Int32) else 1)), .val (.int (if (flags &&& (4 : Int32)) = (0 : Int32) then (0 : Int32) else 1)), .val (.int (if (flags &&& (8 : Int32)) = (0 : Int32) then (0 : Int32) else 1)), .val (.ref b1), .val (.long (1 : Int64)), .second, .val (.long (if (flags &&& (1 : Int32)) = (0 : Int32) then (0 : Int64) else (1 : Int64))), .second, .val (.long ((1 : Int64) - (if (flags &&& (1 : Int32)) = (0 : Int32) then (0 : Int64) else (1 : Int64)))), .second, .unset, .unset, .unset, .unset, .unset] [])) t_
      refine XS.aload X14.here hx rfl (hb hby at_113) rfl rfl ?_
      show Steps p_.tables e_ below (T14.setTop (mkF m_ 115 #[.val (.int flags), .val (.long line), .second, .val (.int (if (flags &&& (1 : Int32)) = (0 : Int32) then (0 : Int32) else 1)), .val (.int (if (flags &&& (2 : Int32)) = (0 : Int32) then (0 : Int32) else 1)), .val (.int (if (flags &&& (4 : Int32)) = (0 : Int32) then (0 : Int32) else 1)), .val (.int (if (flags &&& (8 : Int32)) = (0 : Int32) then (0 : Int32) else 1)), .val (.ref b1), .val (.long (1 : Int64)), .second, .val (.long (if (flags &&& (1 : Int32)) = (0 : Int32) then (0 : Int64) else (1 : Int64))), .second, .val (.long ((1 : Int64) - (if (flags &&& (1 : Int32)) = (0 : Int32) then (0 : Int64) else (1 : Int64)))), .second, .unset, .unset, .unset, .unset, .unset] [(.ref b1)])) t_
      exact k_
    refine own_callV X14 hx hZ (y := (⟨"com/example/keep_count/keepcount/api/BatchResult", "allowed", "()J"⟩ : MethodName)) (z := (⟨"com/example/keep_count/keepcount/api/BatchResult", "allowed", "()J"⟩ : MethodName)) hown (hw _ (List.mem_of_getElem? (i := 42) rfl)) (hw _ (List.mem_of_getElem? (i := 43) rfl)) (notFace_of_selects (args := #[]) (mvT hZ (hw _ (List.mem_of_getElem? (i := 45) rfl)))) (hw _ (List.mem_of_getElem? (i := 45) rfl)) (hw _ (List.mem_of_getElem? (i := 44) rfl)) (hw _ (List.mem_of_getElem? (i := 2) rfl)) (hw _ (List.mem_of_getElem? (i := 46) rfl)) (by decide) b1 [] [] E_b1 (rm7 l Z a0 hw b1 (own_al (if (flags &&& (1 : Int32)) = (0 : Int32) then (0 : Int32) else 1) (0 : Int64)) (own_de (if (flags &&& (1 : Int32)) = (0 : Int32) then (0 : Int32) else 1) (0 : Int64)) ((0 : Int64) + (1 : Int64)) T14.heap n0 Z0 F_allowed_b1 F_denied_b1 F_rejected_b1) 0 (by decide) (by decide) rfl (by rw [hml]; rfl) (lenOf own_pd12 rfl) rfl (Nat.le_of_eq rfl) (hb hby at_115) (by decide) (by decide) ?_
    intro v15 T15 L15 X15 q15
    obtain ⟨rfl, N15q, e15⟩ := q15
    have N15 := Fr.app N14 N15q
    show own_Out p_ e_ below s_ _ _ _ T15 (mkF m_ 118 #[.val (.int flags), .val (.long line), .second, .val (.int (if (flags &&& (1 : Int32)) = (0 : Int32) then (0 : Int32) else 1)), .val (.int (if (flags &&& (2 : Int32)) = (0 : Int32) then (0 : Int32) else 1)), .val (.int (if (flags &&& (4 : Int32)) = (0 : Int32) then (0 : Int32) else 1)), .val (.int (if (flags &&& (8 : Int32)) = (0 : Int32) then (0 : Int32) else 1)), .val (.ref b1), .val (.long (1 : Int64)), .second, .val (.long (if (flags &&& (1 : Int32)) = (0 : Int32) then (0 : Int64) else (1 : Int64))), .second, .val (.long ((1 : Int64) - (if (flags &&& (1 : Int32)) = (0 : Int32) then (0 : Int64) else (1 : Int64)))), .second, .unset, .unset, .unset, .unset, .unset] [(.long (own_al (if (flags &&& (1 : Int32)) = (0 : Int32) then (0 : Int32) else 1) (0 : Int64)))])
    refine own_st T15 (mkF m_ 126 #[.val (.int flags), .val (.long line), .second, .val (.int (if (flags &&& (1 : Int32)) = (0 : Int32) then (0 : Int32) else 1)), .val (.int (if (flags &&& (2 : Int32)) = (0 : Int32) then (0 : Int32) else 1)), .val (.int (if (flags &&& (4 : Int32)) = (0 : Int32) then (0 : Int32) else 1)), .val (.int (if (flags &&& (8 : Int32)) = (0 : Int32) then (0 : Int32) else 1)), .val (.ref b1), .val (.long (1 : Int64)), .second, .val (.long (if (flags &&& (1 : Int32)) = (0 : Int32) then (0 : Int64) else (1 : Int64))), .second, .val (.long ((1 : Int64) - (if (flags &&& (1 : Int32)) = (0 : Int32) then (0 : Int64) else (1 : Int64)))), .second, .unset, .unset, .unset, .unset, .unset] [(.ref b1)]) (fun t_ k_ => ?_) ?_
    · refine XS.lload X15.here hx rfl (hb hby at_118) rfl ?_
      show Steps p_.tables e_ below (T15.setTop (mkF m_ 120 #[.val (.int flags), .val (.long line), .second, .val (.int (if (flags &&& (1 : Int32)) = (0 : Int32) then (0 : Int32) else 1)), .val (.int (if (flags &&& (2 : Int32)) = (0 : Int32) then (0 : Int32) else 1)), .val (.int (if (flags &&& (4 : Int32)) = (0 : Int32) then (0 : Int32) else 1)), .val (.int (if (flags &&& (8 : Int32)) = (0 : Int32) then (0 : Int32) else 1)), .val (.ref b1), .val (.long (1 : Int64)), .second, .val (.long (if (flags &&& (1 : Int32)) = (0 : Int32) then (0 : Int64) else (1 : Int64))), .second, .val (.long ((1 : Int64) - (if (flags &&& (1 : Int32)) = (0 : Int32) then (0 : Int64) else (1 : Int64)))), .second, .unset, .unset, .unset, .unset, .unset] [(.long (if (flags &&& (1 : Int32)) = (0 : Int32) then (0 : Int64) else (1 : Int64))), (.long (own_al (if (flags &&& (1 : Int32)) = (0 : Int32) then (0 : Int32) else 1) (0 : Int64)))])) t_
      refine XS.lcmp X15.here hx rfl (hb hby at_120) rfl ?_
      show Steps p_.tables e_ below (T15.setTop (mkF m_ 121 #[.val (.int flags), .val (.long line), .second, .val (.int (if (flags &&& (1 : Int32)) = (0 : Int32) then (0 : Int32) else 1)), .val (.int (if (flags &&& (2 : Int32)) = (0 : Int32) then (0 : Int32) else 1)), .val (.int (if (flags &&& (4 : Int32)) = (0 : Int32) then (0 : Int32) else 1)), .val (.int (if (flags &&& (8 : Int32)) = (0 : Int32) then (0 : Int32) else 1)), .val (.ref b1), .val (.long (1 : Int64)), .second, .val (.long (if (flags &&& (1 : Int32)) = (0 : Int32) then (0 : Int64) else (1 : Int64))), .second, .val (.long ((1 : Int64) - (if (flags &&& (1 : Int32)) = (0 : Int32) then (0 : Int64) else (1 : Int64)))), .second, .unset, .unset, .unset, .unset, .unset] [(.int (lcmpW (own_al (if (flags &&& (1 : Int32)) = (0 : Int32) then (0 : Int32) else 1) (0 : Int64)) (if (flags &&& (1 : Int32)) = (0 : Int32) then (0 : Int64) else (1 : Int64))))])) t_
      refine XS.ifNo X15.here hx rfl (hb hby at_121) rfl ((if0 _ _).trans (teq ((lw_eq (own_al (if (flags &&& (1 : Int32)) = (0 : Int32) then (0 : Int32) else 1) (0 : Int64)) (if (flags &&& (1 : Int32)) = (0 : Int32) then (0 : Int64) else (1 : Int64))).mpr (by by_cases q0 : (flags &&& (1 : Int32)) = (0 : Int32) <;> by_cases q1 : (flags &&& (2 : Int32)) = (0 : Int32) <;> by_cases q2 : (flags &&& (4 : Int32)) = (0 : Int32) <;> (try simp only [own_al, own_de, q0, q1, q2, if_true, if_false]) <;> decide : (own_al (if (flags &&& (1 : Int32)) = (0 : Int32) then (0 : Int32) else 1) (0 : Int64)) = (if (flags &&& (1 : Int32)) = (0 : Int32) then (0 : Int64) else (1 : Int64))))).2) ?_
      show Steps p_.tables e_ below (T15.setTop (mkF m_ 124 #[.val (.int flags), .val (.long line), .second, .val (.int (if (flags &&& (1 : Int32)) = (0 : Int32) then (0 : Int32) else 1)), .val (.int (if (flags &&& (2 : Int32)) = (0 : Int32) then (0 : Int32) else 1)), .val (.int (if (flags &&& (4 : Int32)) = (0 : Int32) then (0 : Int32) else 1)), .val (.int (if (flags &&& (8 : Int32)) = (0 : Int32) then (0 : Int32) else 1)), .val (.ref b1), .val (.long (1 : Int64)), .second, .val (.long (if (flags &&& (1 : Int32)) = (0 : Int32) then (0 : Int64) else (1 : Int64))), .second, .val (.long ((1 : Int64) - (if (flags &&& (1 : Int32)) = (0 : Int32) then (0 : Int64) else (1 : Int64)))), .second, .unset, .unset, .unset, .unset, .unset] [])) t_
      refine XS.aload X15.here hx rfl (hb hby at_124) rfl rfl ?_
      show Steps p_.tables e_ below (T15.setTop (mkF m_ 126 #[.val (.int flags), .val (.long line), .second, .val (.int (if (flags &&& (1 : Int32)) = (0 : Int32) then (0 : Int32) else 1)), .val (.int (if (flags &&& (2 : Int32)) = (0 : Int32) then (0 : Int32) else 1)), .val (.int (if (flags &&& (4 : Int32)) = (0 : Int32) then (0 : Int32) else 1)), .val (.int (if (flags &&& (8 : Int32)) = (0 : Int32) then (0 : Int32) else 1)), .val (.ref b1), .val (.long (1 : Int64)), .second, .val (.long (if (flags &&& (1 : Int32)) = (0 : Int32) then (0 : Int64) else (1 : Int64))), .second, .val (.long ((1 : Int64) - (if (flags &&& (1 : Int32)) = (0 : Int32) then (0 : Int64) else (1 : Int64)))), .second, .unset, .unset, .unset, .unset, .unset] [(.ref b1)])) t_
      exact k_
    refine own_callV X15 hx hZ (y := (⟨"com/example/keep_count/keepcount/api/BatchResult", "denied", "()J"⟩ : MethodName)) (z := (⟨"com/example/keep_count/keepcount/api/BatchResult", "denied", "()J"⟩ : MethodName)) hown (hw _ (List.mem_of_getElem? (i := 49) rfl)) (hw _ (List.mem_of_getElem? (i := 50) rfl)) (notFace_of_selects (args := #[]) (mvT hZ (hw _ (List.mem_of_getElem? (i := 52) rfl)))) (hw _ (List.mem_of_getElem? (i := 52) rfl)) (hw _ (List.mem_of_getElem? (i := 51) rfl)) (hw _ (List.mem_of_getElem? (i := 2) rfl)) (hw _ (List.mem_of_getElem? (i := 53) rfl)) (by decide) b1 [] [] E_b1 (rm8 l Z a0 hw b1 (own_al (if (flags &&& (1 : Int32)) = (0 : Int32) then (0 : Int32) else 1) (0 : Int64)) (own_de (if (flags &&& (1 : Int32)) = (0 : Int32) then (0 : Int32) else 1) (0 : Int64)) ((0 : Int64) + (1 : Int64)) T14.heap n0 Z0 F_allowed_b1 F_denied_b1 F_rejected_b1) 0 (by decide) (by decide) e15 (by rw [hml]; rfl) (lenOf own_pd12 rfl) rfl (Nat.le_of_eq rfl) (hb hby at_126) (by decide) (by decide) ?_
    intro v16 T16 L16 X16 q16
    obtain ⟨rfl, N16q, e16⟩ := q16
    have N16 := Fr.app N15 N16q
    show own_Out p_ e_ below s_ _ _ _ T16 (mkF m_ 129 #[.val (.int flags), .val (.long line), .second, .val (.int (if (flags &&& (1 : Int32)) = (0 : Int32) then (0 : Int32) else 1)), .val (.int (if (flags &&& (2 : Int32)) = (0 : Int32) then (0 : Int32) else 1)), .val (.int (if (flags &&& (4 : Int32)) = (0 : Int32) then (0 : Int32) else 1)), .val (.int (if (flags &&& (8 : Int32)) = (0 : Int32) then (0 : Int32) else 1)), .val (.ref b1), .val (.long (1 : Int64)), .second, .val (.long (if (flags &&& (1 : Int32)) = (0 : Int32) then (0 : Int64) else (1 : Int64))), .second, .val (.long ((1 : Int64) - (if (flags &&& (1 : Int32)) = (0 : Int32) then (0 : Int64) else (1 : Int64)))), .second, .unset, .unset, .unset, .unset, .unset] [(.long (own_de (if (flags &&& (1 : Int32)) = (0 : Int32) then (0 : Int32) else 1) (0 : Int64)))])
    refine own_st T16 (mkF m_ 146 #[.val (.int flags), .val (.long line), .second, .val (.int (if (flags &&& (1 : Int32)) = (0 : Int32) then (0 : Int32) else 1)), .val (.int (if (flags &&& (2 : Int32)) = (0 : Int32) then (0 : Int32) else 1)), .val (.int (if (flags &&& (4 : Int32)) = (0 : Int32) then (0 : Int32) else 1)), .val (.int (if (flags &&& (8 : Int32)) = (0 : Int32) then (0 : Int32) else 1)), .val (.ref b1), .val (.long (1 : Int64)), .second, .val (.long (if (flags &&& (1 : Int32)) = (0 : Int32) then (0 : Int64) else (1 : Int64))), .second, .val (.long ((1 : Int64) - (if (flags &&& (1 : Int32)) = (0 : Int32) then (0 : Int64) else (1 : Int64)))), .second, .val (.int (1 : Int32)), .unset, .unset, .unset, .unset] [(.int (if (flags &&& (2 : Int32)) = (0 : Int32) then (0 : Int32) else 1)), (.ref b1)]) (fun t_ k_ => ?_) ?_
    · refine XS.lload X16.here hx rfl (hb hby at_129) rfl ?_
      show Steps p_.tables e_ below (T16.setTop (mkF m_ 131 #[.val (.int flags), .val (.long line), .second, .val (.int (if (flags &&& (1 : Int32)) = (0 : Int32) then (0 : Int32) else 1)), .val (.int (if (flags &&& (2 : Int32)) = (0 : Int32) then (0 : Int32) else 1)), .val (.int (if (flags &&& (4 : Int32)) = (0 : Int32) then (0 : Int32) else 1)), .val (.int (if (flags &&& (8 : Int32)) = (0 : Int32) then (0 : Int32) else 1)), .val (.ref b1), .val (.long (1 : Int64)), .second, .val (.long (if (flags &&& (1 : Int32)) = (0 : Int32) then (0 : Int64) else (1 : Int64))), .second, .val (.long ((1 : Int64) - (if (flags &&& (1 : Int32)) = (0 : Int32) then (0 : Int64) else (1 : Int64)))), .second, .unset, .unset, .unset, .unset, .unset] [(.long ((1 : Int64) - (if (flags &&& (1 : Int32)) = (0 : Int32) then (0 : Int64) else (1 : Int64)))), (.long (own_de (if (flags &&& (1 : Int32)) = (0 : Int32) then (0 : Int32) else 1) (0 : Int64)))])) t_
      refine XS.lcmp X16.here hx rfl (hb hby at_131) rfl ?_
      show Steps p_.tables e_ below (T16.setTop (mkF m_ 132 #[.val (.int flags), .val (.long line), .second, .val (.int (if (flags &&& (1 : Int32)) = (0 : Int32) then (0 : Int32) else 1)), .val (.int (if (flags &&& (2 : Int32)) = (0 : Int32) then (0 : Int32) else 1)), .val (.int (if (flags &&& (4 : Int32)) = (0 : Int32) then (0 : Int32) else 1)), .val (.int (if (flags &&& (8 : Int32)) = (0 : Int32) then (0 : Int32) else 1)), .val (.ref b1), .val (.long (1 : Int64)), .second, .val (.long (if (flags &&& (1 : Int32)) = (0 : Int32) then (0 : Int64) else (1 : Int64))), .second, .val (.long ((1 : Int64) - (if (flags &&& (1 : Int32)) = (0 : Int32) then (0 : Int64) else (1 : Int64)))), .second, .unset, .unset, .unset, .unset, .unset] [(.int (lcmpW (own_de (if (flags &&& (1 : Int32)) = (0 : Int32) then (0 : Int32) else 1) (0 : Int64)) ((1 : Int64) - (if (flags &&& (1 : Int32)) = (0 : Int32) then (0 : Int64) else (1 : Int64)))))])) t_
      refine XS.ifNo X16.here hx rfl (hb hby at_132) rfl ((if0 _ _).trans (teq ((lw_eq (own_de (if (flags &&& (1 : Int32)) = (0 : Int32) then (0 : Int32) else 1) (0 : Int64)) ((1 : Int64) - (if (flags &&& (1 : Int32)) = (0 : Int32) then (0 : Int64) else (1 : Int64)))).mpr (by by_cases q0 : (flags &&& (1 : Int32)) = (0 : Int32) <;> by_cases q1 : (flags &&& (2 : Int32)) = (0 : Int32) <;> by_cases q2 : (flags &&& (4 : Int32)) = (0 : Int32) <;> (try simp only [own_al, own_de, q0, q1, q2, if_true, if_false]) <;> decide : (own_de (if (flags &&& (1 : Int32)) = (0 : Int32) then (0 : Int32) else 1) (0 : Int64)) = ((1 : Int64) - (if (flags &&& (1 : Int32)) = (0 : Int32) then (0 : Int64) else (1 : Int64)))))).2) ?_
      show Steps p_.tables e_ below (T16.setTop (mkF m_ 135 #[.val (.int flags), .val (.long line), .second, .val (.int (if (flags &&& (1 : Int32)) = (0 : Int32) then (0 : Int32) else 1)), .val (.int (if (flags &&& (2 : Int32)) = (0 : Int32) then (0 : Int32) else 1)), .val (.int (if (flags &&& (4 : Int32)) = (0 : Int32) then (0 : Int32) else 1)), .val (.int (if (flags &&& (8 : Int32)) = (0 : Int32) then (0 : Int32) else 1)), .val (.ref b1), .val (.long (1 : Int64)), .second, .val (.long (if (flags &&& (1 : Int32)) = (0 : Int32) then (0 : Int64) else (1 : Int64))), .second, .val (.long ((1 : Int64) - (if (flags &&& (1 : Int32)) = (0 : Int32) then (0 : Int64) else (1 : Int64)))), .second, .unset, .unset, .unset, .unset, .unset] [])) t_
      refine XS.iconst X16.here hx rfl (hb hby at_135) ?_
      show Steps p_.tables e_ below (T16.setTop (mkF m_ 136 #[.val (.int flags), .val (.long line), .second, .val (.int (if (flags &&& (1 : Int32)) = (0 : Int32) then (0 : Int32) else 1)), .val (.int (if (flags &&& (2 : Int32)) = (0 : Int32) then (0 : Int32) else 1)), .val (.int (if (flags &&& (4 : Int32)) = (0 : Int32) then (0 : Int32) else 1)), .val (.int (if (flags &&& (8 : Int32)) = (0 : Int32) then (0 : Int32) else 1)), .val (.ref b1), .val (.long (1 : Int64)), .second, .val (.long (if (flags &&& (1 : Int32)) = (0 : Int32) then (0 : Int64) else (1 : Int64))), .second, .val (.long ((1 : Int64) - (if (flags &&& (1 : Int32)) = (0 : Int32) then (0 : Int64) else (1 : Int64)))), .second, .unset, .unset, .unset, .unset, .unset] [(.int (1 : Int32))])) t_
      refine XS.goto X16.here hx rfl (pc0 := 136) (pc' := 140) rfl (hb hby at_136) (by decide) (by decide) ?_
      show Steps p_.tables e_ below (T16.setTop (mkF m_ 140 #[.val (.int flags), .val (.long line), .second, .val (.int (if (flags &&& (1 : Int32)) = (0 : Int32) then (0 : Int32) else 1)), .val (.int (if (flags &&& (2 : Int32)) = (0 : Int32) then (0 : Int32) else 1)), .val (.int (if (flags &&& (4 : Int32)) = (0 : Int32) then (0 : Int32) else 1)), .val (.int (if (flags &&& (8 : Int32)) = (0 : Int32) then (0 : Int32) else 1)), .val (.ref b1), .val (.long (1 : Int64)), .second, .val (.long (if (flags &&& (1 : Int32)) = (0 : Int32) then (0 : Int64) else (1 : Int64))), .second, .val (.long ((1 : Int64) - (if (flags &&& (1 : Int32)) = (0 : Int32) then (0 : Int64) else (1 : Int64)))), .second, .unset, .unset, .unset, .unset, .unset] [(.int (1 : Int32))])) t_
      refine XS.istore X16.here hx rfl (hb hby at_140) rfl (l' := #[.val (.int flags), .val (.long line), .second, .val (.int (if (flags &&& (1 : Int32)) = (0 : Int32) then (0 : Int32) else 1)), .val (.int (if (flags &&& (2 : Int32)) = (0 : Int32) then (0 : Int32) else 1)), .val (.int (if (flags &&& (4 : Int32)) = (0 : Int32) then (0 : Int32) else 1)), .val (.int (if (flags &&& (8 : Int32)) = (0 : Int32) then (0 : Int32) else 1)), .val (.ref b1), .val (.long (1 : Int64)), .second, .val (.long (if (flags &&& (1 : Int32)) = (0 : Int32) then (0 : Int64) else (1 : Int64))), .second, .val (.long ((1 : Int64) - (if (flags &&& (1 : Int32)) = (0 : Int32) then (0 : Int64) else (1 : Int64)))), .second, .val (.int (1 : Int32)), .unset, .unset, .unset, .unset]) rfl ?_
      show Steps p_.tables e_ below (T16.setTop (mkF m_ 142 #[.val (.int flags), .val (.long line), .second, .val (.int (if (flags &&& (1 : Int32)) = (0 : Int32) then (0 : Int32) else 1)), .val (.int (if (flags &&& (2 : Int32)) = (0 : Int32) then (0 : Int32) else 1)), .val (.int (if (flags &&& (4 : Int32)) = (0 : Int32) then (0 : Int32) else 1)), .val (.int (if (flags &&& (8 : Int32)) = (0 : Int32) then (0 : Int32) else 1)), .val (.ref b1), .val (.long (1 : Int64)), .second, .val (.long (if (flags &&& (1 : Int32)) = (0 : Int32) then (0 : Int64) else (1 : Int64))), .second, .val (.long ((1 : Int64) - (if (flags &&& (1 : Int32)) = (0 : Int32) then (0 : Int64) else (1 : Int64)))), .second, .val (.int (1 : Int32)), .unset, .unset, .unset, .unset] [])) t_
      refine XS.aload X16.here hx rfl (hb hby at_142) rfl rfl ?_
      show Steps p_.tables e_ below (T16.setTop (mkF m_ 144 #[.val (.int flags), .val (.long line), .second, .val (.int (if (flags &&& (1 : Int32)) = (0 : Int32) then (0 : Int32) else 1)), .val (.int (if (flags &&& (2 : Int32)) = (0 : Int32) then (0 : Int32) else 1)), .val (.int (if (flags &&& (4 : Int32)) = (0 : Int32) then (0 : Int32) else 1)), .val (.int (if (flags &&& (8 : Int32)) = (0 : Int32) then (0 : Int32) else 1)), .val (.ref b1), .val (.long (1 : Int64)), .second, .val (.long (if (flags &&& (1 : Int32)) = (0 : Int32) then (0 : Int64) else (1 : Int64))), .second, .val (.long ((1 : Int64) - (if (flags &&& (1 : Int32)) = (0 : Int32) then (0 : Int64) else (1 : Int64)))), .second, .val (.int (1 : Int32)), .unset, .unset, .unset, .unset] [(.ref b1)])) t_
      refine XS.iload X16.here hx rfl (hb hby at_144) rfl ?_
      show Steps p_.tables e_ below (T16.setTop (mkF m_ 146 #[.val (.int flags), .val (.long line), .second, .val (.int (if (flags &&& (1 : Int32)) = (0 : Int32) then (0 : Int32) else 1)), .val (.int (if (flags &&& (2 : Int32)) = (0 : Int32) then (0 : Int32) else 1)), .val (.int (if (flags &&& (4 : Int32)) = (0 : Int32) then (0 : Int32) else 1)), .val (.int (if (flags &&& (8 : Int32)) = (0 : Int32) then (0 : Int32) else 1)), .val (.ref b1), .val (.long (1 : Int64)), .second, .val (.long (if (flags &&& (1 : Int32)) = (0 : Int32) then (0 : Int64) else (1 : Int64))), .second, .val (.long ((1 : Int64) - (if (flags &&& (1 : Int32)) = (0 : Int32) then (0 : Int64) else (1 : Int64)))), .second, .val (.int (1 : Int32)), .unset, .unset, .unset, .unset] [(.int (if (flags &&& (2 : Int32)) = (0 : Int32) then (0 : Int32) else 1)), (.ref b1)])) t_
      exact k_
    refine own_callV X16 hx hZ (y := (⟨"com/example/keep_count/keepcount/api/BatchResult", "checked", "(Z)V"⟩ : MethodName)) (z := (⟨"com/example/keep_count/keepcount/api/BatchResult", "checked", "(Z)V"⟩ : MethodName)) hown (hw _ (List.mem_of_getElem? (i := 35) rfl)) (hw _ (List.mem_of_getElem? (i := 36) rfl)) (notFace_of_selects (args := #[]) (mvT hZ (hw _ (List.mem_of_getElem? (i := 38) rfl)))) (hw _ (List.mem_of_getElem? (i := 38) rfl)) (hw _ (List.mem_of_getElem? (i := 37) rfl)) (hw _ (List.mem_of_getElem? (i := 2) rfl)) (hw _ (List.mem_of_getElem? (i := 39) rfl)) (by decide) b1 [(.int (if (flags &&& (2 : Int32)) = (0 : Int32) then (0 : Int32) else 1))] [] E_b1 (rm6 l Z a0 hw b1 (if (flags &&& (2 : Int32)) = (0 : Int32) then (0 : Int32) else 1) (own_al (if (flags &&& (1 : Int32)) = (0 : Int32) then (0 : Int32) else 1) (0 : Int64)) (own_de (if (flags &&& (1 : Int32)) = (0 : Int32) then (0 : Int32) else 1) (0 : Int64)) ((0 : Int64) + (1 : Int64)) T14.heap n0 Z0 F_allowed_b1 F_denied_b1 F_rejected_b1 E_b1 g_b1) 0 (by decide) (by decide) e16 (by rw [hml]; rfl) (lenOf own_pd11 rfl) rfl (Nat.le_of_eq rfl) (hb hby at_146) (by decide) (by decide) ?_
    intro v17 T17 L17 X17 q17
    obtain ⟨rfl, N17q, K17, Fq1, Fq2, Fq3⟩ := q17
    have N17 := Fr.app N16 N17q
    replace E_b1 := E_b1.keep K17
    -- F_allowed_b1 is dropped: written by the callee
    -- F_denied_b1 is dropped: written by the callee
    -- F_rejected_b1 is dropped: written by the callee
    replace Z0 : n0 ≤ T17.heap.size := Nat.le_trans Z0 K17.1
    have F_allowed_b1 := Fq1
    have F_denied_b1 := Fq2
    have F_rejected_b1 := Fq3
    show own_Out p_ e_ below s_ _ _ _ T17 (mkF m_ 149 #[.val (.int flags), .val (.long line), .second, .val (.int (if (flags &&& (1 : Int32)) = (0 : Int32) then (0 : Int32) else 1)), .val (.int (if (flags &&& (2 : Int32)) = (0 : Int32) then (0 : Int32) else 1)), .val (.int (if (flags &&& (4 : Int32)) = (0 : Int32) then (0 : Int32) else 1)), .val (.int (if (flags &&& (8 : Int32)) = (0 : Int32) then (0 : Int32) else 1)), .val (.ref b1), .val (.long (1 : Int64)), .second, .val (.long (if (flags &&& (1 : Int32)) = (0 : Int32) then (0 : Int64) else (1 : Int64))), .second, .val (.long ((1 : Int64) - (if (flags &&& (1 : Int32)) = (0 : Int32) then (0 : Int64) else (1 : Int64)))), .second, .val (.int (1 : Int32)), .unset, .unset, .unset, .unset] [])
    refine own_st T17 (mkF m_ 153 #[.val (.int flags), .val (.long line), .second, .val (.int (if (flags &&& (1 : Int32)) = (0 : Int32) then (0 : Int32) else 1)), .val (.int (if (flags &&& (2 : Int32)) = (0 : Int32) then (0 : Int32) else 1)), .val (.int (if (flags &&& (4 : Int32)) = (0 : Int32) then (0 : Int32) else 1)), .val (.int (if (flags &&& (8 : Int32)) = (0 : Int32) then (0 : Int32) else 1)), .val (.ref b1), .val (.long (1 : Int64)), .second, .val (.long (if (flags &&& (1 : Int32)) = (0 : Int32) then (0 : Int64) else (1 : Int64))), .second, .val (.long ((1 : Int64) - (if (flags &&& (1 : Int32)) = (0 : Int32) then (0 : Int64) else (1 : Int64)))), .second, .val (.int (1 : Int32)), .unset, .unset, .unset, .unset] [(.int (if (flags &&& (4 : Int32)) = (0 : Int32) then (0 : Int32) else 1)), (.ref b1)]) (fun t_ k_ => ?_) ?_
    · refine XS.aload X17.here hx rfl (hb hby at_149) rfl rfl ?_
      show Steps p_.tables e_ below (T17.setTop (mkF m_ 151 #[.val (.int flags), .val (.long line), .second, .val (.int (if (flags &&& (1 : Int32)) = (0 : Int32) then (0 : Int32) else 1)), .val (.int (if (flags &&& (2 : Int32)) = (0 : Int32) then (0 : Int32) else 1)), .val (.int (if (flags &&& (4 : Int32)) = (0 : Int32) then (0 : Int32) else 1)), .val (.int (if (flags &&& (8 : Int32)) = (0 : Int32) then (0 : Int32) else 1)), .val (.ref b1), .val (.long (1 : Int64)), .second, .val (.long (if (flags &&& (1 : Int32)) = (0 : Int32) then (0 : Int64) else (1 : Int64))), .second, .val (.long ((1 : Int64) - (if (flags &&& (1 : Int32)) = (0 : Int32) then (0 : Int64) else (1 : Int64)))), .second, .val (.int (1 : Int32)), .unset, .unset, .unset, .unset] [(.ref b1)])) t_
      refine XS.iload X17.here hx rfl (hb hby at_151) rfl ?_
      show Steps p_.tables e_ below (T17.setTop (mkF m_ 153 #[.val (.int flags), .val (.long line), .second, .val (.int (if (flags &&& (1 : Int32)) = (0 : Int32) then (0 : Int32) else 1)), .val (.int (if (flags &&& (2 : Int32)) = (0 : Int32) then (0 : Int32) else 1)), .val (.int (if (flags &&& (4 : Int32)) = (0 : Int32) then (0 : Int32) else 1)), .val (.int (if (flags &&& (8 : Int32)) = (0 : Int32) then (0 : Int32) else 1)), .val (.ref b1), .val (.long (1 : Int64)), .second, .val (.long (if (flags &&& (1 : Int32)) = (0 : Int32) then (0 : Int64) else (1 : Int64))), .second, .val (.long ((1 : Int64) - (if (flags &&& (1 : Int32)) = (0 : Int32) then (0 : Int64) else (1 : Int64)))), .second, .val (.int (1 : Int32)), .unset, .unset, .unset, .unset] [(.int (if (flags &&& (4 : Int32)) = (0 : Int32) then (0 : Int32) else 1)), (.ref b1)])) t_
      exact k_
    refine own_callV X17 hx hZ (y := (⟨"com/example/keep_count/keepcount/api/BatchResult", "checked", "(Z)V"⟩ : MethodName)) (z := (⟨"com/example/keep_count/keepcount/api/BatchResult", "checked", "(Z)V"⟩ : MethodName)) hown (hw _ (List.mem_of_getElem? (i := 35) rfl)) (hw _ (List.mem_of_getElem? (i := 36) rfl)) (notFace_of_selects (args := #[]) (mvT hZ (hw _ (List.mem_of_getElem? (i := 38) rfl)))) (hw _ (List.mem_of_getElem? (i := 38) rfl)) (hw _ (List.mem_of_getElem? (i := 37) rfl)) (hw _ (List.mem_of_getElem? (i := 2) rfl)) (hw _ (List.mem_of_getElem? (i := 39) rfl)) (by decide) b1 [(.int (if (flags &&& (4 : Int32)) = (0 : Int32) then (0 : Int32) else 1))] [] E_b1 (rm6 l Z a0 hw b1 (if (flags &&& (4 : Int32)) = (0 : Int32) then (0 : Int32) else 1) (own_al (if (flags &&& (2 : Int32)) = (0 : Int32) then (0 : Int32) else 1) (own_al (if (flags &&& (1 : Int32)) = (0 : Int32) then (0 : Int32) else 1) (0 : Int64))) (own_de (if (flags &&& (2 : Int32)) = (0 : Int32) then (0 : Int32) else 1) (own_de (if (flags &&& (1 : Int32)) = (0 : Int32) then (0 : Int32) else 1) (0 : Int64))) ((0 : Int64) + (1 : Int64)) T17.heap n0 Z0 F_allowed_b1 F_denied_b1 F_rejected_b1 E_b1 g_b1) 0 (by decide) (by decide) rfl (by rw [hml]; rfl) (lenOf own_pd11 rfl) rfl (Nat.le_of_eq rfl) (hb hby at_153) (by decide) (by decide) ?_
    intro v18 T18 L18 X18 q18
    obtain ⟨rfl, N18q, K18, Fq1, Fq2, Fq3⟩ := q18
    have N18 := Fr.app N17 N18q
    replace E_b1 := E_b1.keep K18
    -- F_allowed_b1 is dropped: written by the callee
    -- F_denied_b1 is dropped: written by the callee
    -- F_rejected_b1 is dropped: written by the callee
    replace Z0 : n0 ≤ T18.heap.size := Nat.le_trans Z0 K18.1
    have F_allowed_b1 := Fq1
    have F_denied_b1 := Fq2
    have F_rejected_b1 := Fq3
    show own_Out p_ e_ below s_ _ _ _ T18 (mkF m_ 156 #[.val (.int flags), .val (.long line), .second, .val (.int (if (flags &&& (1 : Int32)) = (0 : Int32) then (0 : Int32) else 1)), .val (.int (if (flags &&& (2 : Int32)) = (0 : Int32) then (0 : Int32) else 1)), .val (.int (if (flags &&& (4 : Int32)) = (0 : Int32) then (0 : Int32) else 1)), .val (.int (if (flags &&& (8 : Int32)) = (0 : Int32) then (0 : Int32) else 1)), .val (.ref b1), .val (.long (1 : Int64)), .second, .val (.long (if (flags &&& (1 : Int32)) = (0 : Int32) then (0 : Int64) else (1 : Int64))), .second, .val (.long ((1 : Int64) - (if (flags &&& (1 : Int32)) = (0 : Int32) then (0 : Int64) else (1 : Int64)))), .second, .val (.int (1 : Int32)), .unset, .unset, .unset, .unset] [])
    refine own_st T18 (mkF m_ 197 #[.val (.int flags), .val (.long line), .second, .val (.int (if (flags &&& (1 : Int32)) = (0 : Int32) then (0 : Int32) else 1)), .val (.int (if (flags &&& (2 : Int32)) = (0 : Int32) then (0 : Int32) else 1)), .val (.int (if (flags &&& (4 : Int32)) = (0 : Int32) then (0 : Int32) else 1)), .val (.int (if (flags &&& (8 : Int32)) = (0 : Int32) then (0 : Int32) else 1)), .val (.ref b1), .val (.long (1 : Int64)), .second, .val (.long (if (flags &&& (1 : Int32)) = (0 : Int32) then (0 : Int64) else (1 : Int64))), .second, .val (.long ((1 : Int64) - (if (flags &&& (1 : Int32)) = (0 : Int32) then (0 : Int64) else (1 : Int64)))), .second, .val (.int (1 : Int32)), .val (.long (((if (flags &&& (1 : Int32)) = (0 : Int32) then (0 : Int64) else (1 : Int64)) + (if (flags &&& (2 : Int32)) = (0 : Int32) then (0 : Int64) else (1 : Int64))) + (if (flags &&& (4 : Int32)) = (0 : Int32) then (0 : Int64) else (1 : Int64)))), .second, .val (.long ((3 : Int64) - (((if (flags &&& (1 : Int32)) = (0 : Int32) then (0 : Int64) else (1 : Int64)) + (if (flags &&& (2 : Int32)) = (0 : Int32) then (0 : Int64) else (1 : Int64))) + (if (flags &&& (4 : Int32)) = (0 : Int32) then (0 : Int64) else (1 : Int64))))), .second] [(.ref b1)]) (fun t_ k_ => ?_) ?_
    · refine XS.lload X18.here hx rfl (hb hby at_156) rfl ?_
      show Steps p_.tables e_ below (T18.setTop (mkF m_ 158 #[.val (.int flags), .val (.long line), .second, .val (.int (if (flags &&& (1 : Int32)) = (0 : Int32) then (0 : Int32) else 1)), .val (.int (if (flags &&& (2 : Int32)) = (0 : Int32) then (0 : Int32) else 1)), .val (.int (if (flags &&& (4 : Int32)) = (0 : Int32) then (0 : Int32) else 1)), .val (.int (if (flags &&& (8 : Int32)) = (0 : Int32) then (0 : Int32) else 1)), .val (.ref b1), .val (.long (1 : Int64)), .second, .val (.long (if (flags &&& (1 : Int32)) = (0 : Int32) then (0 : Int64) else (1 : Int64))), .second, .val (.long ((1 : Int64) - (if (flags &&& (1 : Int32)) = (0 : Int32) then (0 : Int64) else (1 : Int64)))), .second, .val (.int (1 : Int32)), .unset, .unset, .unset, .unset] [(.long (if (flags &&& (1 : Int32)) = (0 : Int32) then (0 : Int64) else (1 : Int64)))])) t_
      refine XS.iload X18.here hx rfl (hb hby at_158) rfl ?_
      show Steps p_.tables e_ below (T18.setTop (mkF m_ 160 #[.val (.int flags), .val (.long line), .second, .val (.int (if (flags &&& (1 : Int32)) = (0 : Int32) then (0 : Int32) else 1)), .val (.int (if (flags &&& (2 : Int32)) = (0 : Int32) then (0 : Int32) else 1)), .val (.int (if (flags &&& (4 : Int32)) = (0 : Int32) then (0 : Int32) else 1)), .val (.int (if (flags &&& (8 : Int32)) = (0 : Int32) then (0 : Int32) else 1)), .val (.ref b1), .val (.long (1 : Int64)), .second, .val (.long (if (flags &&& (1 : Int32)) = (0 : Int32) then (0 : Int64) else (1 : Int64))), .second, .val (.long ((1 : Int64) - (if (flags &&& (1 : Int32)) = (0 : Int32) then (0 : Int64) else (1 : Int64)))), .second, .val (.int (1 : Int32)), .unset, .unset, .unset, .unset] [(.int (if (flags &&& (2 : Int32)) = (0 : Int32) then (0 : Int32) else 1)), (.long (if (flags &&& (1 : Int32)) = (0 : Int32) then (0 : Int64) else (1 : Int64)))])) t_
      have jn160 : ∀ t_, Steps p_.tables e_ below (T18.setTop (mkF m_ 168 #[.val (.int flags), .val (.long line), .second, .val (.int (if (flags &&& (1 : Int32)) = (0 : Int32) then (0 : Int32) else 1)), .val (.int (if (flags &&& (2 : Int32)) = (0 : Int32) then (0 : Int32) else 1)), .val (.int (if (flags &&& (4 : Int32)) = (0 : Int32) then (0 : Int32) else 1)), .val (.int (if (flags &&& (8 : Int32)) = (0 : Int32) then (0 : Int32) else 1)), .val (.ref b1), .val (.long (1 : Int64)), .second, .val (.long (if (flags &&& (1 : Int32)) = (0 : Int32) then (0 : Int64) else (1 : Int64))), .second, .val (.long ((1 : Int64) - (if (flags &&& (1 : Int32)) = (0 : Int32) then (0 : Int64) else (1 : Int64)))), .second, .val (.int (1 : Int32)), .unset, .unset, .unset, .unset] [(.long (if (flags &&& (2 : Int32)) = (0 : Int32) then (0 : Int64) else (1 : Int64))), (.long (if (flags &&& (1 : Int32)) = (0 : Int32) then (0 : Int64) else (1 : Int64)))])) t_ → Steps p_.tables e_ below (T18.setTop (mkF m_ 160 #[.val (.int flags), .val (.long line), .second, .val (.int (if (flags &&& (1 : Int32)) = (0 : Int32) then (0 : Int32) else 1)), .val (.int (if (flags &&& (2 : Int32)) = (0 : Int32) then (0 : Int32) else 1)), .val (.int (if (flags &&& (4 : Int32)) = (0 : Int32) then (0 : Int32) else 1)), .val (.int (if (flags &&& (8 : Int32)) = (0 : Int32) then (0 : Int32) else 1)), .val (.ref b1), .val (.long (1 : Int64)), .second, .val (.long (if (flags &&& (1 : Int32)) = (0 : Int32) then (0 : Int64) else (1 : Int64))), .second, .val (.long ((1 : Int64) - (if (flags &&& (1 : Int32)) = (0 : Int32) then (0 : Int64) else (1 : Int64)))), .second, .val (.int (1 : Int32)), .unset, .unset, .unset, .unset] [(.int (if (flags &&& (2 : Int32)) = (0 : Int32) then (0 : Int32) else 1)), (.long (if (flags &&& (1 : Int32)) = (0 : Int32) then (0 : Int64) else (1 : Int64)))])) t_ := by
        intro t_ k_
        by_cases hc160 : (flags &&& (2 : Int32)) = (0 : Int32)
        · refine XS.ifYes X18.here hx rfl (pc0 := 160) (pc' := 167) rfl (hb hby at_160) rfl ((if0 _ _).trans (teq (own_nt hc160)).1) (by decide) (by decide) ?_
          show Steps p_.tables e_ below (T18.setTop (mkF m_ 167 #[.val (.int flags), .val (.long line), .second, .val (.int (if (flags &&& (1 : Int32)) = (0 : Int32) then (0 : Int32) else 1)), .val (.int (if (flags &&& (2 : Int32)) = (0 : Int32) then (0 : Int32) else 1)), .val (.int (if (flags &&& (4 : Int32)) = (0 : Int32) then (0 : Int32) else 1)), .val (.int (if (flags &&& (8 : Int32)) = (0 : Int32) then (0 : Int32) else 1)), .val (.ref b1), .val (.long (1 : Int64)), .second, .val (.long (if (flags &&& (1 : Int32)) = (0 : Int32) then (0 : Int64) else (1 : Int64))), .second, .val (.long ((1 : Int64) - (if (flags &&& (1 : Int32)) = (0 : Int32) then (0 : Int64) else (1 : Int64)))), .second, .val (.int (1 : Int32)), .unset, .unset, .unset, .unset] [(.long (if (flags &&& (1 : Int32)) = (0 : Int32) then (0 : Int64) else (1 : Int64)))])) t_
          refine XS.lconst X18.here hx rfl (hb hby at_167) ?_
          show Steps p_.tables e_ below (T18.setTop (mkF m_ 168 #[.val (.int flags), .val (.long line), .second, .val (.int (if (flags &&& (1 : Int32)) = (0 : Int32) then (0 : Int32) else 1)), .val (.int (if (flags &&& (2 : Int32)) = (0 : Int32) then (0 : Int32) else 1)), .val (.int (if (flags &&& (4 : Int32)) = (0 : Int32) then (0 : Int32) else 1)), .val (.int (if (flags &&& (8 : Int32)) = (0 : Int32) then (0 : Int32) else 1)), .val (.ref b1), .val (.long (1 : Int64)), .second, .val (.long (if (flags &&& (1 : Int32)) = (0 : Int32) then (0 : Int64) else (1 : Int64))), .second, .val (.long ((1 : Int64) - (if (flags &&& (1 : Int32)) = (0 : Int32) then (0 : Int64) else (1 : Int64)))), .second, .val (.int (1 : Int32)), .unset, .unset, .unset, .unset] [(.long (0 : Int64)), (.long (if (flags &&& (1 : Int32)) = (0 : Int32) then (0 : Int64) else (1 : Int64)))])) t_
          simp only [if_pos hc160] at k_ ⊢
          exact k_
        · refine XS.ifNo X18.here hx rfl (hb hby at_160) rfl ((if0 _ _).trans (feq (own_nf hc160)).1) ?_
          show Steps p_.tables e_ below (T18.setTop (mkF m_ 163 #[.val (.int flags), .val (.long line), .second, .val (.int (if (flags &&& (1 : Int32)) = (0 : Int32) then (0 : Int32) else 1)), .val (.int (if (flags &&& (2 : Int32)) = (0 : Int32) then (0 : Int32) else 1)), .val (.int (if (flags &&& (4 : Int32)) = (0 : Int32) then (0 : Int32) else 1)), .val (.int (if (flags &&& (8 : Int32)) = (0 : Int32) then (0 : Int32) else 1)), .val (.ref b1), .val (.long (1 : Int64)), .second, .val (.long (if (flags &&& (1 : Int32)) = (0 : Int32) then (0 : Int64) else (1 : Int64))), .second, .val (.long ((1 : Int64) - (if (flags &&& (1 : Int32)) = (0 : Int32) then (0 : Int64) else (1 : Int64)))), .second, .val (.int (1 : Int32)), .unset, .unset, .unset, .unset] [(.long (if (flags &&& (1 : Int32)) = (0 : Int32) then (0 : Int64) else (1 : Int64)))])) t_
          refine XS.lconst X18.here hx rfl (hb hby at_163) ?_
          show Steps p_.tables e_ below (T18.setTop (mkF m_ 164 #[.val (.int flags), .val (.long line), .second, .val (.int (if (flags &&& (1 : Int32)) = (0 : Int32) then (0 : Int32) else 1)), .val (.int (if (flags &&& (2 : Int32)) = (0 : Int32) then (0 : Int32) else 1)), .val (.int (if (flags &&& (4 : Int32)) = (0 : Int32) then (0 : Int32) else 1)), .val (.int (if (flags &&& (8 : Int32)) = (0 : Int32) then (0 : Int32) else 1)), .val (.ref b1), .val (.long (1 : Int64)), .second, .val (.long (if (flags &&& (1 : Int32)) = (0 : Int32) then (0 : Int64) else (1 : Int64))), .second, .val (.long ((1 : Int64) - (if (flags &&& (1 : Int32)) = (0 : Int32) then (0 : Int64) else (1 : Int64)))), .second, .val (.int (1 : Int32)), .unset, .unset, .unset, .unset] [(.long (1 : Int64)), (.long (if (flags &&& (1 : Int32)) = (0 : Int32) then (0 : Int64) else (1 : Int64)))])) t_
          refine XS.goto X18.here hx rfl (pc0 := 164) (pc' := 168) rfl (hb hby at_164) (by decide) (by decide) ?_
          show Steps p_.tables e_ below (T18.setTop (mkF m_ 168 #[.val (.int flags), .val (.long line), .second, .val (.int (if (flags &&& (1 : Int32)) = (0 : Int32) then (0 : Int32) else 1)), .val (.int (if (flags &&& (2 : Int32)) = (0 : Int32) then (0 : Int32) else 1)), .val (.int (if (flags &&& (4 : Int32)) = (0 : Int32) then (0 : Int32) else 1)), .val (.int (if (flags &&& (8 : Int32)) = (0 : Int32) then (0 : Int32) else 1)), .val (.ref b1), .val (.long (1 : Int64)), .second, .val (.long (if (flags &&& (1 : Int32)) = (0 : Int32) then (0 : Int64) else (1 : Int64))), .second, .val (.long ((1 : Int64) - (if (flags &&& (1 : Int32)) = (0 : Int32) then (0 : Int64) else (1 : Int64)))), .second, .val (.int (1 : Int32)), .unset, .unset, .unset, .unset] [(.long (1 : Int64)), (.long (if (flags &&& (1 : Int32)) = (0 : Int32) then (0 : Int64) else (1 : Int64)))])) t_
          simp only [if_neg hc160] at k_ ⊢
          exact k_
      refine jn160 _ ?_
      show Steps p_.tables e_ below (T18.setTop (mkF m_ 168 #[.val (.int flags), .val (.long line), .second, .val (.int (if (flags &&& (1 : Int32)) = (0 : Int32) then (0 : Int32) else 1)), .val (.int (if (flags &&& (2 : Int32)) = (0 : Int32) then (0 : Int32) else 1)), .val (.int (if (flags &&& (4 : Int32)) = (0 : Int32) then (0 : Int32) else 1)), .val (.int (if (flags &&& (8 : Int32)) = (0 : Int32) then (0 : Int32) else 1)), .val (.ref b1), .val (.long (1 : Int64)), .second, .val (.long (if (flags &&& (1 : Int32)) = (0 : Int32) then (0 : Int64) else (1 : Int64))), .second, .val (.long ((1 : Int64) - (if (flags &&& (1 : Int32)) = (0 : Int32) then (0 : Int64) else (1 : Int64)))), .second, .val (.int (1 : Int32)), .unset, .unset, .unset, .unset] [(.long (if (flags &&& (2 : Int32)) = (0 : Int32) then (0 : Int64) else (1 : Int64))), (.long (if (flags &&& (1 : Int32)) = (0 : Int32) then (0 : Int64) else (1 : Int64)))])) t_
      refine XS.ladd X18.here hx rfl (hb hby at_168) rfl ?_
      show Steps p_.tables e_ below (T18.setTop (mkF m_ 169 #[.val (.int flags), .val (.long line), .second, .val (.int (if (flags &&& (1 : Int32)) = (0 : Int32) then (0 : Int32) else 1)), .val (.int (if (flags &&& (2 : Int32)) = (0 : Int32) then (0 : Int32) else 1)), .val (.int (if (flags &&& (4 : Int32)) = (0 : Int32) then (0 : Int32) else 1)), .val (.int (if (flags &&& (8 : Int32)) = (0 : Int32) then (0 : Int32) else 1)), .val (.ref b1), .val (.long (1 : Int64)), .second, .val (.long (if (flags &&& (1 : Int32)) = (0 : Int32) then (0 : Int64) else (1 : Int64))), .second, .val (.long ((1 : Int64) - (if (flags &&& (1 : Int32)) = (0 : Int32) then (0 : Int64) else (1 : Int64)))), .second, .val (.int (1 : Int32)), .unset, .unset, .unset, .unset] [(.long ((if (flags &&& (1 : Int32)) = (0 : Int32) then (0 : Int64) else (1 : Int64)) + (if (flags &&& (2 : Int32)) = (0 : Int32) then (0 : Int64) else (1 : Int64))))])) t_
      refine XS.iload X18.here hx rfl (hb hby at_169) rfl ?_
      show Steps p_.tables e_ below (T18.setTop (mkF m_ 171 #[.val (.int flags), .val (.long line), .second, .val (.int (if (flags &&& (1 : Int32)) = (0 : Int32) then (0 : Int32) else 1)), .val (.int (if (flags &&& (2 : Int32)) = (0 : Int32) then (0 : Int32) else 1)), .val (.int (if (flags &&& (4 : Int32)) = (0 : Int32) then (0 : Int32) else 1)), .val (.int (if (flags &&& (8 : Int32)) = (0 : Int32) then (0 : Int32) else 1)), .val (.ref b1), .val (.long (1 : Int64)), .second, .val (.long (if (flags &&& (1 : Int32)) = (0 : Int32) then (0 : Int64) else (1 : Int64))), .second, .val (.long ((1 : Int64) - (if (flags &&& (1 : Int32)) = (0 : Int32) then (0 : Int64) else (1 : Int64)))), .second, .val (.int (1 : Int32)), .unset, .unset, .unset, .unset] [(.int (if (flags &&& (4 : Int32)) = (0 : Int32) then (0 : Int32) else 1)), (.long ((if (flags &&& (1 : Int32)) = (0 : Int32) then (0 : Int64) else (1 : Int64)) + (if (flags &&& (2 : Int32)) = (0 : Int32) then (0 : Int64) else (1 : Int64))))])) t_
      have jn171 : ∀ t_, Steps p_.tables e_ below (T18.setTop (mkF m_ 179 #[.val (.int flags), .val (.long line), .second, .val (.int (if (flags &&& (1 : Int32)) = (0 : Int32) then (0 : Int32) else 1)), .val (.int (if (flags &&& (2 : Int32)) = (0 : Int32) then (0 : Int32) else 1)), .val (.int (if (flags &&& (4 : Int32)) = (0 : Int32) then (0 : Int32) else 1)), .val (.int (if (flags &&& (8 : Int32)) = (0 : Int32) then (0 : Int32) else 1)), .val (.ref b1), .val (.long (1 : Int64)), .second, .val (.long (if (flags &&& (1 : Int32)) = (0 : Int32) then (0 : Int64) else (1 : Int64))), .second, .val (.long ((1 : Int64) - (if (flags &&& (1 : Int32)) = (0 : Int32) then (0 : Int64) else (1 : Int64)))), .second, .val (.int (1 : Int32)), .unset, .unset, .unset, .unset] [(.long (if (flags &&& (4 : Int32)) = (0 : Int32) then (0 : Int64) else (1 : Int64))), (.long ((if (flags &&& (1 : Int32)) = (0 : Int32) then (0 : Int64) else (1 : Int64)) + (if (flags &&& (2 : Int32)) = (0 : Int32) then (0 : Int64) else (1 : Int64))))])) t_ → Steps p_.tables e_ below (T18.setTop (mkF m_ 171 #[.val (.int flags), .val (.long line), .second, .val (.int (if (flags &&& (1 : Int32)) = (0 : Int32) then (0 : Int32) else 1)), .val (.int (if (flags &&& (2 : Int32)) = (0 : Int32) then (0 : Int32) else 1)), .val (.int (if (flags &&& (4 : Int32)) = (0 : Int32) then (0 : Int32) else 1)), .val (.int (if (flags &&& (8 : Int32)) = (0 : Int32) then (0 : Int32) else 1)), .val (.ref b1), .val (.long (1 : Int64)), .second, .val (.long (if (flags &&& (1 : Int32)) = (0 : Int32) then (0 : Int64) else (1 : Int64))), .second, .val (.long ((1 : Int64) - (if (flags &&& (1 : Int32)) = (0 : Int32) then (0 : Int64) else (1 : Int64)))), .second, .val (.int (1 : Int32)), .unset, .unset, .unset, .unset] [(.int (if (flags &&& (4 : Int32)) = (0 : Int32) then (0 : Int32) else 1)), (.long ((if (flags &&& (1 : Int32)) = (0 : Int32) then (0 : Int64) else (1 : Int64)) + (if (flags &&& (2 : Int32)) = (0 : Int32) then (0 : Int64) else (1 : Int64))))])) t_ := by
        intro t_ k_
        by_cases hc171 : (flags &&& (4 : Int32)) = (0 : Int32)
        · refine XS.ifYes X18.here hx rfl (pc0 := 171) (pc' := 178) rfl (hb hby at_171) rfl ((if0 _ _).trans (teq (own_nt hc171)).1) (by decide) (by decide) ?_
          show Steps p_.tables e_ below (T18.setTop (mkF m_ 178 #[.val (.int flags), .val (.long line), .second, .val (.int (if (flags &&& (1 : Int32)) = (0 : Int32) then (0 : Int32) else 1)), .val (.int (if (flags &&& (2 : Int32)) = (0 : Int32) then (0 : Int32) else 1)), .val (.int (if (flags &&& (4 : Int32)) = (0 : Int32) then (0 : Int32) else 1)), .val (.int (if (flags &&& (8 : Int32)) = (0 : Int32) then (0 : Int32) else 1)), .val (.ref b1), .val (.long (1 : Int64)), .second, .val (.long (if (flags &&& (1 : Int32)) = (0 : Int32) then (0 : Int64) else (1 : Int64))), .second, .val (.long ((1 : Int64) - (if (flags &&& (1 : Int32)) = (0 : Int32) then (0 : Int64) else (1 : Int64)))), .second, .val (.int (1 : Int32)), .unset, .unset, .unset, .unset] [(.long ((if (flags &&& (1 : Int32)) = (0 : Int32) then (0 : Int64) else (1 : Int64)) + (if (flags &&& (2 : Int32)) = (0 : Int32) then (0 : Int64) else (1 : Int64))))])) t_
          refine XS.lconst X18.here hx rfl (hb hby at_178) ?_
          show Steps p_.tables e_ below (T18.setTop (mkF m_ 179 #[.val (.int flags), .val (.long line), .second, .val (.int (if (flags &&& (1 : Int32)) = (0 : Int32) then (0 : Int32) else 1)), .val (.int (if (flags &&& (2 : Int32)) = (0 : Int32) then (0 : Int32) else 1)), .val (.int (if (flags &&& (4 : Int32)) = (0 : Int32) then (0 : Int32) else 1)), .val (.int (if (flags &&& (8 : Int32)) = (0 : Int32) then (0 : Int32) else 1)), .val (.ref b1), .val (.long (1 : Int64)), .second, .val (.long (if (flags &&& (1 : Int32)) = (0 : Int32) then (0 : Int64) else (1 : Int64))), .second, .val (.long ((1 : Int64) - (if (flags &&& (1 : Int32)) = (0 : Int32) then (0 : Int64) else (1 : Int64)))), .second, .val (.int (1 : Int32)), .unset, .unset, .unset, .unset] [(.long (0 : Int64)), (.long ((if (flags &&& (1 : Int32)) = (0 : Int32) then (0 : Int64) else (1 : Int64)) + (if (flags &&& (2 : Int32)) = (0 : Int32) then (0 : Int64) else (1 : Int64))))])) t_
          simp only [if_pos hc171] at k_ ⊢
          exact k_
        · refine XS.ifNo X18.here hx rfl (hb hby at_171) rfl ((if0 _ _).trans (feq (own_nf hc171)).1) ?_
          show Steps p_.tables e_ below (T18.setTop (mkF m_ 174 #[.val (.int flags), .val (.long line), .second, .val (.int (if (flags &&& (1 : Int32)) = (0 : Int32) then (0 : Int32) else 1)), .val (.int (if (flags &&& (2 : Int32)) = (0 : Int32) then (0 : Int32) else 1)), .val (.int (if (flags &&& (4 : Int32)) = (0 : Int32) then (0 : Int32) else 1)), .val (.int (if (flags &&& (8 : Int32)) = (0 : Int32) then (0 : Int32) else 1)), .val (.ref b1), .val (.long (1 : Int64)), .second, .val (.long (if (flags &&& (1 : Int32)) = (0 : Int32) then (0 : Int64) else (1 : Int64))), .second, .val (.long ((1 : Int64) - (if (flags &&& (1 : Int32)) = (0 : Int32) then (0 : Int64) else (1 : Int64)))), .second, .val (.int (1 : Int32)), .unset, .unset, .unset, .unset] [(.long ((if (flags &&& (1 : Int32)) = (0 : Int32) then (0 : Int64) else (1 : Int64)) + (if (flags &&& (2 : Int32)) = (0 : Int32) then (0 : Int64) else (1 : Int64))))])) t_
          refine XS.lconst X18.here hx rfl (hb hby at_174) ?_
          show Steps p_.tables e_ below (T18.setTop (mkF m_ 175 #[.val (.int flags), .val (.long line), .second, .val (.int (if (flags &&& (1 : Int32)) = (0 : Int32) then (0 : Int32) else 1)), .val (.int (if (flags &&& (2 : Int32)) = (0 : Int32) then (0 : Int32) else 1)), .val (.int (if (flags &&& (4 : Int32)) = (0 : Int32) then (0 : Int32) else 1)), .val (.int (if (flags &&& (8 : Int32)) = (0 : Int32) then (0 : Int32) else 1)), .val (.ref b1), .val (.long (1 : Int64)), .second, .val (.long (if (flags &&& (1 : Int32)) = (0 : Int32) then (0 : Int64) else (1 : Int64))), .second, .val (.long ((1 : Int64) - (if (flags &&& (1 : Int32)) = (0 : Int32) then (0 : Int64) else (1 : Int64)))), .second, .val (.int (1 : Int32)), .unset, .unset, .unset, .unset] [(.long (1 : Int64)), (.long ((if (flags &&& (1 : Int32)) = (0 : Int32) then (0 : Int64) else (1 : Int64)) + (if (flags &&& (2 : Int32)) = (0 : Int32) then (0 : Int64) else (1 : Int64))))])) t_
          refine XS.goto X18.here hx rfl (pc0 := 175) (pc' := 179) rfl (hb hby at_175) (by decide) (by decide) ?_
          show Steps p_.tables e_ below (T18.setTop (mkF m_ 179 #[.val (.int flags), .val (.long line), .second, .val (.int (if (flags &&& (1 : Int32)) = (0 : Int32) then (0 : Int32) else 1)), .val (.int (if (flags &&& (2 : Int32)) = (0 : Int32) then (0 : Int32) else 1)), .val (.int (if (flags &&& (4 : Int32)) = (0 : Int32) then (0 : Int32) else 1)), .val (.int (if (flags &&& (8 : Int32)) = (0 : Int32) then (0 : Int32) else 1)), .val (.ref b1), .val (.long (1 : Int64)), .second, .val (.long (if (flags &&& (1 : Int32)) = (0 : Int32) then (0 : Int64) else (1 : Int64))), .second, .val (.long ((1 : Int64) - (if (flags &&& (1 : Int32)) = (0 : Int32) then (0 : Int64) else (1 : Int64)))), .second, .val (.int (1 : Int32)), .unset, .unset, .unset, .unset] [(.long (1 : Int64)), (.long ((if (flags &&& (1 : Int32)) = (0 : Int32) then (0 : Int64) else (1 : Int64)) + (if (flags &&& (2 : Int32)) = (0 : Int32) then (0 : Int64) else (1 : Int64))))])) t_
          simp only [if_neg hc171] at k_ ⊢
          exact k_
      refine jn171 _ ?_
      show Steps p_.tables e_ below (T18.setTop (mkF m_ 179 #[.val (.int flags), .val (.long line), .second, .val (.int (if (flags &&& (1 : Int32)) = (0 : Int32) then (0 : Int32) else 1)), .val (.int (if (flags &&& (2 : Int32)) = (0 : Int32) then (0 : Int32) else 1)), .val (.int (if (flags &&& (4 : Int32)) = (0 : Int32) then (0 : Int32) else 1)), .val (.int (if (flags &&& (8 : Int32)) = (0 : Int32) then (0 : Int32) else 1)), .val (.ref b1), .val (.long (1 : Int64)), .second, .val (.long (if (flags &&& (1 : Int32)) = (0 : Int32) then (0 : Int64) else (1 : Int64))), .second, .val (.long ((1 : Int64) - (if (flags &&& (1 : Int32)) = (0 : Int32) then (0 : Int64) else (1 : Int64)))), .second, .val (.int (1 : Int32)), .unset, .unset, .unset, .unset] [(.long (if (flags &&& (4 : Int32)) = (0 : Int32) then (0 : Int64) else (1 : Int64))), (.long ((if (flags &&& (1 : Int32)) = (0 : Int32) then (0 : Int64) else (1 : Int64)) + (if (flags &&& (2 : Int32)) = (0 : Int32) then (0 : Int64) else (1 : Int64))))])) t_
      refine XS.ladd X18.here hx rfl (hb hby at_179) rfl ?_
      show Steps p_.tables e_ below (T18.setTop (mkF m_ 180 #[.val (.int flags), .val (.long line), .second, .val (.int (if (flags &&& (1 : Int32)) = (0 : Int32) then (0 : Int32) else 1)), .val (.int (if (flags &&& (2 : Int32)) = (0 : Int32) then (0 : Int32) else 1)), .val (.int (if (flags &&& (4 : Int32)) = (0 : Int32) then (0 : Int32) else 1)), .val (.int (if (flags &&& (8 : Int32)) = (0 : Int32) then (0 : Int32) else 1)), .val (.ref b1), .val (.long (1 : Int64)), .second, .val (.long (if (flags &&& (1 : Int32)) = (0 : Int32) then (0 : Int64) else (1 : Int64))), .second, .val (.long ((1 : Int64) - (if (flags &&& (1 : Int32)) = (0 : Int32) then (0 : Int64) else (1 : Int64)))), .second, .val (.int (1 : Int32)), .unset, .unset, .unset, .unset] [(.long (((if (flags &&& (1 : Int32)) = (0 : Int32) then (0 : Int64) else (1 : Int64)) + (if (flags &&& (2 : Int32)) = (0 : Int32) then (0 : Int64) else (1 : Int64))) + (if (flags &&& (4 : Int32)) = (0 : Int32) then (0 : Int64) else (1 : Int64))))])) t_
      refine XS.lstore X18.here hx rfl (hb hby at_180) rfl (l' := #[.val (.int flags), .val (.long line), .second, .val (.int (if (flags &&& (1 : Int32)) = (0 : Int32) then (0 : Int32) else 1)), .val (.int (if (flags &&& (2 : Int32)) = (0 : Int32) then (0 : Int32) else 1)), .val (.int (if (flags &&& (4 : Int32)) = (0 : Int32) then (0 : Int32) else 1)), .val (.int (if (flags &&& (8 : Int32)) = (0 : Int32) then (0 : Int32) else 1)), .val (.ref b1), .val (.long (1 : Int64)), .second, .val (.long (if (flags &&& (1 : Int32)) = (0 : Int32) then (0 : Int64) else (1 : Int64))), .second, .val (.long ((1 : Int64) - (if (flags &&& (1 : Int32)) = (0 : Int32) then (0 : Int64) else (1 : Int64)))), .second, .val (.int (1 : Int32)), .val (.long (((if (flags &&& (1 : Int32)) = (0 : Int32) then (0 : Int64) else (1 : Int64)) + (if (flags &&& (2 : Int32)) = (0 : Int32) then (0 : Int64) else (1 : Int64))) + (if (flags &&& (4 : Int32)) = (0 : Int32) then (0 : Int64) else (1 : Int64)))), .second, .unset, .unset]) rfl ?_
      show Steps p_.tables e_ below (T18.setTop (mkF m_ 182 #[.val (.int flags), .val (.long line), .second, .val (.int (if (flags &&& (1 : Int32)) = (0 : Int32) then (0 : Int32) else 1)), .val (.int (if (flags &&& (2 : Int32)) = (0 : Int32) then (0 : Int32) else 1)), .val (.int (if (flags &&& (4 : Int32)) = (0 : Int32) then (0 : Int32) else 1)), .val (.int (if (flags &&& (8 : Int32)) = (0 : Int32) then (0 : Int32) else 1)), .val (.ref b1), .val (.long (1 : Int64)), .second, .val (.long (if (flags &&& (1 : Int32)) = (0 : Int32) then (0 : Int64) else (1 : Int64))), .second, .val (.long ((1 : Int64) - (if (flags &&& (1 : Int32)) = (0 : Int32) then (0 : Int64) else (1 : Int64)))), .second, .val (.int (1 : Int32)), .val (.long (((if (flags &&& (1 : Int32)) = (0 : Int32) then (0 : Int64) else (1 : Int64)) + (if (flags &&& (2 : Int32)) = (0 : Int32) then (0 : Int64) else (1 : Int64))) + (if (flags &&& (4 : Int32)) = (0 : Int32) then (0 : Int64) else (1 : Int64)))), .second, .unset, .unset] [])) t_
      refine X18.ldc2Long hx hown (mvT hZ (hw _ (List.mem_of_getElem? (i := 54) rfl))) (g := (mkF m_ 182 #[.val (.int flags), .val (.long line), .second, .val (.int (if (flags &&& (1 : Int32)) = (0 : Int32) then (0 : Int32) else 1)), .val (.int (if (flags &&& (2 : Int32)) = (0 : Int32) then (0 : Int32) else 1)), .val (.int (if (flags &&& (4 : Int32)) = (0 : Int32) then (0 : Int32) else 1)), .val (.int (if (flags &&& (8 : Int32)) = (0 : Int32) then (0 : Int32) else 1)), .val (.ref b1), .val (.long (1 : Int64)), .second, .val (.long (if (flags &&& (1 : Int32)) = (0 : Int32) then (0 : Int64) else (1 : Int64))), .second, .val (.long ((1 : Int64) - (if (flags &&& (1 : Int32)) = (0 : Int32) then (0 : Int64) else (1 : Int64)))), .second, .val (.int (1 : Int32)), .val (.long (((if (flags &&& (1 : Int32)) = (0 : Int32) then (0 : Int64) else (1 : Int64)) + (if (flags &&& (2 : Int32)) = (0 : Int32) then (0 : Int64) else (1 : Int64))) + (if (flags &&& (4 : Int32)) = (0 : Int32) then (0 : Int64) else (1 : Int64)))), .second, .unset, .unset] [])) rfl (hb hby at_182) _ ?_
      show Steps p_.tables e_ below (T18.setTop (mkF m_ 185 #[.val (.int flags), .val (.long line), .second, .val (.int (if (flags &&& (1 : Int32)) = (0 : Int32) then (0 : Int32) else 1)), .val (.int (if (flags &&& (2 : Int32)) = (0 : Int32) then (0 : Int32) else 1)), .val (.int (if (flags &&& (4 : Int32)) = (0 : Int32) then (0 : Int32) else 1)), .val (.int (if (flags &&& (8 : Int32)) = (0 : Int32) then (0 : Int32) else 1)), .val (.ref b1), .val (.long (1 : Int64)), .second, .val (.long (if (flags &&& (1 : Int32)) = (0 : Int32) then (0 : Int64) else (1 : Int64))), .second, .val (.long ((1 : Int64) - (if (flags &&& (1 : Int32)) = (0 : Int32) then (0 : Int64) else (1 : Int64)))), .second, .val (.int (1 : Int32)), .val (.long (((if (flags &&& (1 : Int32)) = (0 : Int32) then (0 : Int64) else (1 : Int64)) + (if (flags &&& (2 : Int32)) = (0 : Int32) then (0 : Int64) else (1 : Int64))) + (if (flags &&& (4 : Int32)) = (0 : Int32) then (0 : Int64) else (1 : Int64)))), .second, .unset, .unset] [(.long (3 : Int64))])) t_
      refine XS.lload X18.here hx rfl (hb hby at_185) rfl ?_
      show Steps p_.tables e_ below (T18.setTop (mkF m_ 187 #[.val (.int flags), .val (.long line), .second, .val (.int (if (flags &&& (1 : Int32)) = (0 : Int32) then (0 : Int32) else 1)), .val (.int (if (flags &&& (2 : Int32)) = (0 : Int32) then (0 : Int32) else 1)), .val (.int (if (flags &&& (4 : Int32)) = (0 : Int32) then (0 : Int32) else 1)), .val (.int (if (flags &&& (8 : Int32)) = (0 : Int32) then (0 : Int32) else 1)), .val (.ref b1), .val (.long (1 : Int64)), .second, .val (.long (if (flags &&& (1 : Int32)) = (0 : Int32) then (0 : Int64) else (1 : Int64))), .second, .val (.long ((1 : Int64) - (if (flags &&& (1 : Int32)) = (0 : Int32) then (0 : Int64) else (1 : Int64)))), .second, .val (.int (1 : Int32)), .val (.long (((if (flags &&& (1 : Int32)) = (0 : Int32) then (0 : Int64) else (1 : Int64)) + (if (flags &&& (2 : Int32)) = (0 : Int32) then (0 : Int64) else (1 : Int64))) + (if (flags &&& (4 : Int32)) = (0 : Int32) then (0 : Int64) else (1 : Int64)))), .second, .unset, .unset] [(.long (((if (flags &&& (1 : Int32)) = (0 : Int32) then (0 : Int64) else (1 : Int64)) + (if (flags &&& (2 : Int32)) = (0 : Int32) then (0 : Int64) else (1 : Int64))) + (if (flags &&& (4 : Int32)) = (0 : Int32) then (0 : Int64) else (1 : Int64)))), (.long (3 : Int64))])) t_
      refine XS.lsub X18.here hx rfl (hb hby at_187) rfl ?_
      show Steps p_.tables e_ below (T18.setTop (mkF m_ 188 #[.val (.int flags), .val (.long line), .second, .val (.int (if (flags &&& (1 : Int32)) = (0 : Int32) then (0 : Int32) else 1)), .val (.int (if (flags &&& (2 : Int32)) = (0 : Int32) then (0 : Int32) else 1)), .val (.int (if (flags &&& (4 : Int32)) = (0 : Int32) then (0 : Int32) else 1)), .val (.int (if (flags &&& (8 : Int32)) = (0 : Int32) then (0 : Int32) else 1)), .val (.ref b1), .val (.long (1 : Int64)), .second, .val (.long (if (flags &&& (1 : Int32)) = (0 : Int32) then (0 : Int64) else (1 : Int64))), .second, .val (.long ((1 : Int64) - (if (flags &&& (1 : Int32)) = (0 : Int32) then (0 : Int64) else (1 : Int64)))), .second, .val (.int (1 : Int32)), .val (.long (((if (flags &&& (1 : Int32)) = (0 : Int32) then (0 : Int64) else (1 : Int64)) + (if (flags &&& (2 : Int32)) = (0 : Int32) then (0 : Int64) else (1 : Int64))) + (if (flags &&& (4 : Int32)) = (0 : Int32) then (0 : Int64) else (1 : Int64)))), .second, .unset, .unset] [(.long ((3 : Int64) - (((if (flags &&& (1 : Int32)) = (0 : Int32) then (0 : Int64) else (1 : Int64)) + (if (flags &&& (2 : Int32)) = (0 : Int32) then (0 : Int64) else (1 : Int64))) + (if (flags &&& (4 : Int32)) = (0 : Int32) then (0 : Int64) else (1 : Int64)))))])) t_
      refine XS.lstore X18.here hx rfl (hb hby at_188) rfl (l' := #[.val (.int flags), .val (.long line), .second, .val (.int (if (flags &&& (1 : Int32)) = (0 : Int32) then (0 : Int32) else 1)), .val (.int (if (flags &&& (2 : Int32)) = (0 : Int32) then (0 : Int32) else 1)), .val (.int (if (flags &&& (4 : Int32)) = (0 : Int32) then (0 : Int32) else 1)), .val (.int (if (flags &&& (8 : Int32)) = (0 : Int32) then (0 : Int32) else 1)), .val (.ref b1), .val (.long (1 : Int64)), .second, .val (.long (if (flags &&& (1 : Int32)) = (0 : Int32) then (0 : Int64) else (1 : Int64))), .second, .val (.long ((1 : Int64) - (if (flags &&& (1 : Int32)) = (0 : Int32) then (0 : Int64) else (1 : Int64)))), .second, .val (.int (1 : Int32)), .val (.long (((if (flags &&& (1 : Int32)) = (0 : Int32) then (0 : Int64) else (1 : Int64)) + (if (flags &&& (2 : Int32)) = (0 : Int32) then (0 : Int64) else (1 : Int64))) + (if (flags &&& (4 : Int32)) = (0 : Int32) then (0 : Int64) else (1 : Int64)))), .second, .val (.long ((3 : Int64) - (((if (flags &&& (1 : Int32)) = (0 : Int32) then (0 : Int64) else (1 : Int64)) + (if (flags &&& (2 : Int32)) = (0 : Int32) then (0 : Int64) else (1 : Int64))) + (if (flags &&& (4 : Int32)) = (0 : Int32) then (0 : Int64) else (1 : Int64))))), .second]) rfl ?_
      show Steps p_.tables e_ below (T18.setTop (mkF m_ 190 #[.val (.int flags), .val (.long line), .second, .val (.int (if (flags &&& (1 : Int32)) = (0 : Int32) then (0 : Int32) else 1)), .val (.int (if (flags &&& (2 : Int32)) = (0 : Int32) then (0 : Int32) else 1)), .val (.int (if (flags &&& (4 : Int32)) = (0 : Int32) then (0 : Int32) else 1)), .val (.int (if (flags &&& (8 : Int32)) = (0 : Int32) then (0 : Int32) else 1)), .val (.ref b1), .val (.long (1 : Int64)), .second, .val (.long (if (flags &&& (1 : Int32)) = (0 : Int32) then (0 : Int64) else (1 : Int64))), .second, .val (.long ((1 : Int64) - (if (flags &&& (1 : Int32)) = (0 : Int32) then (0 : Int64) else (1 : Int64)))), .second, .val (.int (1 : Int32)), .val (.long (((if (flags &&& (1 : Int32)) = (0 : Int32) then (0 : Int64) else (1 : Int64)) + (if (flags &&& (2 : Int32)) = (0 : Int32) then (0 : Int64) else (1 : Int64))) + (if (flags &&& (4 : Int32)) = (0 : Int32) then (0 : Int64) else (1 : Int64)))), .second, .val (.long ((3 : Int64) - (((if (flags &&& (1 : Int32)) = (0 : Int32) then (0 : Int64) else (1 : Int64)) + (if (flags &&& (2 : Int32)) = (0 : Int32) then (0 : Int64) else (1 : Int64))) + (if (flags &&& (4 : Int32)) = (0 : Int32) then (0 : Int64) else (1 : Int64))))), .second] [])) t_
      refine XS.iload X18.here hx rfl (hb hby at_190) rfl ?_
      show Steps p_.tables e_ below (T18.setTop (mkF m_ 192 #[.val (.int flags), .val (.long line), .second, .val (.int (if (flags &&& (1 : Int32)) = (0 : Int32) then (0 : Int32) else 1)), .val (.int (if (flags &&& (2 : Int32)) = (0 : Int32) then (0 : Int32) else 1)), .val (.int (if (flags &&& (4 : Int32)) = (0 : Int32) then (0 : Int32) else 1)), .val (.int (if (flags &&& (8 : Int32)) = (0 : Int32) then (0 : Int32) else 1)), .val (.ref b1), .val (.long (1 : Int64)), .second, .val (.long (if (flags &&& (1 : Int32)) = (0 : Int32) then (0 : Int64) else (1 : Int64))), .second, .val (.long ((1 : Int64) - (if (flags &&& (1 : Int32)) = (0 : Int32) then (0 : Int64) else (1 : Int64)))), .second, .val (.int (1 : Int32)), .val (.long (((if (flags &&& (1 : Int32)) = (0 : Int32) then (0 : Int64) else (1 : Int64)) + (if (flags &&& (2 : Int32)) = (0 : Int32) then (0 : Int64) else (1 : Int64))) + (if (flags &&& (4 : Int32)) = (0 : Int32) then (0 : Int64) else (1 : Int64)))), .second, .val (.long ((3 : Int64) - (((if (flags &&& (1 : Int32)) = (0 : Int32) then (0 : Int64) else (1 : Int64)) + (if (flags &&& (2 : Int32)) = (0 : Int32) then (0 : Int64) else (1 : Int64))) + (if (flags &&& (4 : Int32)) = (0 : Int32) then (0 : Int64) else (1 : Int64))))), .second] [(.int (1 : Int32))])) t_
      refine XS.ifNo X18.here hx rfl (hb hby at_192) rfl ((if0 _ _).trans (feq (by decide : ¬ ((1 : Int32) = (0 : Int32)))).1) ?_
      show Steps p_.tables e_ below (T18.setTop (mkF m_ 195 #[.val (.int flags), .val (.long line), .second, .val (.int (if (flags &&& (1 : Int32)) = (0 : Int32) then (0 : Int32) else 1)), .val (.int (if (flags &&& (2 : Int32)) = (0 : Int32) then (0 : Int32) else 1)), .val (.int (if (flags &&& (4 : Int32)) = (0 : Int32) then (0 : Int32) else 1)), .val (.int (if (flags &&& (8 : Int32)) = (0 : Int32) then (0 : Int32) else 1)), .val (.ref b1), .val (.long (1 : Int64)), .second, .val (.long (if (flags &&& (1 : Int32)) = (0 : Int32) then (0 : Int64) else (1 : Int64))), .second, .val (.long ((1 : Int64) - (if (flags &&& (1 : Int32)) = (0 : Int32) then (0 : Int64) else (1 : Int64)))), .second, .val (.int (1 : Int32)), .val (.long (((if (flags &&& (1 : Int32)) = (0 : Int32) then (0 : Int64) else (1 : Int64)) + (if (flags &&& (2 : Int32)) = (0 : Int32) then (0 : Int64) else (1 : Int64))) + (if (flags &&& (4 : Int32)) = (0 : Int32) then (0 : Int64) else (1 : Int64)))), .second, .val (.long ((3 : Int64) - (((if (flags &&& (1 : Int32)) = (0 : Int32) then (0 : Int64) else (1 : Int64)) + (if (flags &&& (2 : Int32)) = (0 : Int32) then (0 : Int64) else (1 : Int64))) + (if (flags &&& (4 : Int32)) = (0 : Int32) then (0 : Int64) else (1 : Int64))))), .second] [])) t_
      refine XS.aload X18.here hx rfl (hb hby at_195) rfl rfl ?_
      show Steps p_.tables e_ below (T18.setTop (mkF m_ 197 #[.val (.int flags), .val (.long line), .second, .val (.int (if (flags &&& (1 : Int32)) = (0 : Int32) then (0 : Int32) else 1)), .val (.int (if (flags &&& (2 : Int32)) = (0 : Int32) then (0 : Int32) else 1)), .val (.int (if (flags &&& (4 : Int32)) = (0 : Int32) then (0 : Int32) else 1)), .val (.int (if (flags &&& (8 : Int32)) = (0 : Int32) then (0 : Int32) else 1)), .val (.ref b1), .val (.long (1 : Int64)), .second, .val (.long (if (flags &&& (1 : Int32)) = (0 : Int32) then (0 : Int64) else (1 : Int64))), .second, .val (.long ((1 : Int64) - (if (flags &&& (1 : Int32)) = (0 : Int32) then (0 : Int64) else (1 : Int64)))), .second, .val (.int (1 : Int32)), .val (.long (((if (flags &&& (1 : Int32)) = (0 : Int32) then (0 : Int64) else (1 : Int64)) + (if (flags &&& (2 : Int32)) = (0 : Int32) then (0 : Int64) else (1 : Int64))) + (if (flags &&& (4 : Int32)) = (0 : Int32) then (0 : Int64) else (1 : Int64)))), .second, .val (.long ((3 : Int64) - (((if (flags &&& (1 : Int32)) = (0 : Int32) then (0 : Int64) else (1 : Int64)) + (if (flags &&& (2 : Int32)) = (0 : Int32) then (0 : Int64) else (1 : Int64))) + (if (flags &&& (4 : Int32)) = (0 : Int32) then (0 : Int64) else (1 : Int64))))), .second] [(.ref b1)])) t_
      exact k_
    refine own_callV X18 hx hZ (y := (⟨"com/example/keep_count/keepcount/api/BatchResult", "allowed", "()J"⟩ : MethodName)) (z := (⟨"com/example/keep_count/keepcount/api/BatchResult", "allowed", "()J"⟩ : MethodName)) hown (hw _ (List.mem_of_getElem? (i := 42) rfl)) (hw _ (List.mem_of_getElem? (i := 43) rfl)) (notFace_of_selects (args := #[]) (mvT hZ (hw _ (List.mem_of_getElem? (i := 45) rfl)))) (hw _ (List.mem_of_getElem? (i := 45) rfl)) (hw _ (List.mem_of_getElem? (i := 44) rfl)) (hw _ (List.mem_of_getElem? (i := 2) rfl)) (hw _ (List.mem_of_getElem? (i := 46) rfl)) (by decide) b1 [] [] E_b1 (rm7 l Z a0 hw b1 (own_al (if (flags &&& (4 : Int32)) = (0 : Int32) then (0 : Int32) else 1) (own_al (if (flags &&& (2 : Int32)) = (0 : Int32) then (0 : Int32) else 1) (own_al (if (flags &&& (1 : Int32)) = (0 : Int32) then (0 : Int32) else 1) (0 : Int64)))) (own_de (if (flags &&& (4 : Int32)) = (0 : Int32) then (0 : Int32) else 1) (own_de (if (flags &&& (2 : Int32)) = (0 : Int32) then (0 : Int32) else 1) (own_de (if (flags &&& (1 : Int32)) = (0 : Int32) then (0 : Int32) else 1) (0 : Int64)))) ((0 : Int64) + (1 : Int64)) T18.heap n0 Z0 F_allowed_b1 F_denied_b1 F_rejected_b1) 0 (by decide) (by decide) rfl (by rw [hml]; rfl) (lenOf own_pd12 rfl) rfl (Nat.le_of_eq rfl) (hb hby at_197) (by decide) (by decide) ?_
    intro v19 T19 L19 X19 q19
    obtain ⟨rfl, N19q, e19⟩ := q19
    have N19 := Fr.app N18 N19q
    show own_Out p_ e_ below s_ _ _ _ T19 (mkF m_ 200 #[.val (.int flags), .val (.long line), .second, .val (.int (if (flags &&& (1 : Int32)) = (0 : Int32) then (0 : Int32) else 1)), .val (.int (if (flags &&& (2 : Int32)) = (0 : Int32) then (0 : Int32) else 1)), .val (.int (if (flags &&& (4 : Int32)) = (0 : Int32) then (0 : Int32) else 1)), .val (.int (if (flags &&& (8 : Int32)) = (0 : Int32) then (0 : Int32) else 1)), .val (.ref b1), .val (.long (1 : Int64)), .second, .val (.long (if (flags &&& (1 : Int32)) = (0 : Int32) then (0 : Int64) else (1 : Int64))), .second, .val (.long ((1 : Int64) - (if (flags &&& (1 : Int32)) = (0 : Int32) then (0 : Int64) else (1 : Int64)))), .second, .val (.int (1 : Int32)), .val (.long (((if (flags &&& (1 : Int32)) = (0 : Int32) then (0 : Int64) else (1 : Int64)) + (if (flags &&& (2 : Int32)) = (0 : Int32) then (0 : Int64) else (1 : Int64))) + (if (flags &&& (4 : Int32)) = (0 : Int32) then (0 : Int64) else (1 : Int64)))), .second, .val (.long ((3 : Int64) - (((if (flags &&& (1 : Int32)) = (0 : Int32) then (0 : Int64) else (1 : Int64)) + (if (flags &&& (2 : Int32)) = (0 : Int32) then (0 : Int64) else (1 : Int64))) + (if (flags &&& (4 : Int32)) = (0 : Int32) then (0 : Int64) else (1 : Int64))))), .second] [(.long (own_al (if (flags &&& (4 : Int32)) = (0 : Int32) then (0 : Int32) else 1) (own_al (if (flags &&& (2 : Int32)) = (0 : Int32) then (0 : Int32) else 1) (own_al (if (flags &&& (1 : Int32)) = (0 : Int32) then (0 : Int32) else 1) (0 : Int64)))))])
    refine own_st T19 (mkF m_ 208 #[.val (.int flags), .val (.long line), .second, .val (.int (if (flags &&& (1 : Int32)) = (0 : Int32) then (0 : Int32) else 1)), .val (.int (if (flags &&& (2 : Int32)) = (0 : Int32) then (0 : Int32) else 1)), .val (.int (if (flags &&& (4 : Int32)) = (0 : Int32) then (0 : Int32) else 1)), .val (.int (if (flags &&& (8 : Int32)) = (0 : Int32) then (0 : Int32) else 1)), .val (.ref b1), .val (.long (1 : Int64)), .second, .val (.long (if (flags &&& (1 : Int32)) = (0 : Int32) then (0 : Int64) else (1 : Int64))), .second, .val (.long ((1 : Int64) - (if (flags &&& (1 : Int32)) = (0 : Int32) then (0 : Int64) else (1 : Int64)))), .second, .val (.int (1 : Int32)), .val (.long (((if (flags &&& (1 : Int32)) = (0 : Int32) then (0 : Int64) else (1 : Int64)) + (if (flags &&& (2 : Int32)) = (0 : Int32) then (0 : Int64) else (1 : Int64))) + (if (flags &&& (4 : Int32)) = (0 : Int32) then (0 : Int64) else (1 : Int64)))), .second, .val (.long ((3 : Int64) - (((if (flags &&& (1 : Int32)) = (0 : Int32) then (0 : Int64) else (1 : Int64)) + (if (flags &&& (2 : Int32)) = (0 : Int32) then (0 : Int64) else (1 : Int64))) + (if (flags &&& (4 : Int32)) = (0 : Int32) then (0 : Int64) else (1 : Int64))))), .second] [(.ref b1)]) (fun t_ k_ => ?_) ?_
    · refine XS.lload X19.here hx rfl (hb hby at_200) rfl ?_
      show Steps p_.tables e_ below (T19.setTop (mkF m_ 202 #[.val (.int flags), .val (.long line), .second, .val (.int (if (flags &&& (1 : Int32)) = (0 : Int32) then (0 : Int32) else 1)), .val (.int (if (flags &&& (2 : Int32)) = (0 : Int32) then (0 : Int32) else 1)), .val (.int (if (flags &&& (4 : Int32)) = (0 : Int32) then (0 : Int32) else 1)), .val (.int (if (flags &&& (8 : Int32)) = (0 : Int32) then (0 : Int32) else 1)), .val (.ref b1), .val (.long (1 : Int64)), .second, .val (.long (if (flags &&& (1 : Int32)) = (0 : Int32) then (0 : Int64) else (1 : Int64))), .second, .val (.long ((1 : Int64) - (if (flags &&& (1 : Int32)) = (0 : Int32) then (0 : Int64) else (1 : Int64)))), .second, .val (.int (1 : Int32)), .val (.long (((if (flags &&& (1 : Int32)) = (0 : Int32) then (0 : Int64) else (1 : Int64)) + (if (flags &&& (2 : Int32)) = (0 : Int32) then (0 : Int64) else (1 : Int64))) + (if (flags &&& (4 : Int32)) = (0 : Int32) then (0 : Int64) else (1 : Int64)))), .second, .val (.long ((3 : Int64) - (((if (flags &&& (1 : Int32)) = (0 : Int32) then (0 : Int64) else (1 : Int64)) + (if (flags &&& (2 : Int32)) = (0 : Int32) then (0 : Int64) else (1 : Int64))) + (if (flags &&& (4 : Int32)) = (0 : Int32) then (0 : Int64) else (1 : Int64))))), .second] [(.long (((if (flags &&& (1 : Int32)) = (0 : Int32) then (0 : Int64) else (1 : Int64)) + (if (flags &&& (2 : Int32)) = (0 : Int32) then (0 : Int64) else (1 : Int64))) + (if (flags &&& (4 : Int32)) = (0 : Int32) then (0 : Int64) else (1 : Int64)))), (.long (own_al (if (flags &&& (4 : Int32)) = (0 : Int32) then (0 : Int32) else 1) (own_al (if (flags &&& (2 : Int32)) = (0 : Int32) then (0 : Int32) else 1) (own_al (if (flags &&& (1 : Int32)) = (0 : Int32) then (0 : Int32) else 1) (0 : Int64)))))])) t_
      refine XS.lcmp X19.here hx rfl (hb hby at_202) rfl ?_
      show Steps p_.tables e_ below (T19.setTop (mkF m_ 203 #[.val (.int flags), .val (.long line), .second, .val (.int (if (flags &&& (1 : Int32)) = (0 : Int32) then (0 : Int32) else 1)), .val (.int (if (flags &&& (2 : Int32)) = (0 : Int32) then (0 : Int32) else 1)), .val (.int (if (flags &&& (4 : Int32)) = (0 : Int32) then (0 : Int32) else 1)), .val (.int (if (flags &&& (8 : Int32)) = (0 : Int32) then (0 : Int32) else 1)), .val (.ref b1), .val (.long (1 : Int64)), .second, .val (.long (if (flags &&& (1 : Int32)) = (0 : Int32) then (0 : Int64) else (1 : Int64))), .second, .val (.long ((1 : Int64) - (if (flags &&& (1 : Int32)) = (0 : Int32) then (0 : Int64) else (1 : Int64)))), .second, .val (.int (1 : Int32)), .val (.long (((if (flags &&& (1 : Int32)) = (0 : Int32) then (0 : Int64) else (1 : Int64)) + (if (flags &&& (2 : Int32)) = (0 : Int32) then (0 : Int64) else (1 : Int64))) + (if (flags &&& (4 : Int32)) = (0 : Int32) then (0 : Int64) else (1 : Int64)))), .second, .val (.long ((3 : Int64) - (((if (flags &&& (1 : Int32)) = (0 : Int32) then (0 : Int64) else (1 : Int64)) + (if (flags &&& (2 : Int32)) = (0 : Int32) then (0 : Int64) else (1 : Int64))) + (if (flags &&& (4 : Int32)) = (0 : Int32) then (0 : Int64) else (1 : Int64))))), .second] [(.int (lcmpW (own_al (if (flags &&& (4 : Int32)) = (0 : Int32) then (0 : Int32) else 1) (own_al (if (flags &&& (2 : Int32)) = (0 : Int32) then (0 : Int32) else 1) (own_al (if (flags &&& (1 : Int32)) = (0 : Int32) then (0 : Int32) else 1) (0 : Int64)))) (((if (flags &&& (1 : Int32)) = (0 : Int32) then (0 : Int64) else (1 : Int64)) + (if (flags &&& (2 : Int32)) = (0 : Int32) then (0 : Int64) else (1 : Int64))) + (if (flags &&& (4 : Int32)) = (0 : Int32) then (0 : Int64) else (1 : Int64)))))])) t_
      refine XS.ifNo X19.here hx rfl (hb hby at_203) rfl ((if0 _ _).trans (teq ((lw_eq (own_al (if (flags &&& (4 : Int32)) = (0 : Int32) then (0 : Int32) else 1) (own_al (if (flags &&& (2 : Int32)) = (0 : Int32) then (0 : Int32) else 1) (own_al (if (flags &&& (1 : Int32)) = (0 : Int32) then (0 : Int32) else 1) (0 : Int64)))) (((if (flags &&& (1 : Int32)) = (0 : Int32) then (0 : Int64) else (1 : Int64)) + (if (flags &&& (2 : Int32)) = (0 : Int32) then (0 : Int64) else (1 : Int64))) + (if (flags &&& (4 : Int32)) = (0 : Int32) then (0 : Int64) else (1 : Int64)))).mpr (by by_cases q0 : (flags &&& (1 : Int32)) = (0 : Int32) <;> by_cases q1 : (flags &&& (2 : Int32)) = (0 : Int32) <;> by_cases q2 : (flags &&& (4 : Int32)) = (0 : Int32) <;> (try simp only [own_al, own_de, q0, q1, q2, if_true, if_false]) <;> decide : (own_al (if (flags &&& (4 : Int32)) = (0 : Int32) then (0 : Int32) else 1) (own_al (if (flags &&& (2 : Int32)) = (0 : Int32) then (0 : Int32) else 1) (own_al (if (flags &&& (1 : Int32)) = (0 : Int32) then (0 : Int32) else 1) (0 : Int64)))) = (((if (flags &&& (1 : Int32)) = (0 : Int32) then (0 : Int64) else (1 : Int64)) + (if (flags &&& (2 : Int32)) = (0 : Int32) then (0 : Int64) else (1 : Int64))) + (if (flags &&& (4 : Int32)) = (0 : Int32) then (0 : Int64) else (1 : Int64)))))).2) ?_
      show Steps p_.tables e_ below (T19.setTop (mkF m_ 206 #[.val (.int flags), .val (.long line), .second, .val (.int (if (flags &&& (1 : Int32)) = (0 : Int32) then (0 : Int32) else 1)), .val (.int (if (flags &&& (2 : Int32)) = (0 : Int32) then (0 : Int32) else 1)), .val (.int (if (flags &&& (4 : Int32)) = (0 : Int32) then (0 : Int32) else 1)), .val (.int (if (flags &&& (8 : Int32)) = (0 : Int32) then (0 : Int32) else 1)), .val (.ref b1), .val (.long (1 : Int64)), .second, .val (.long (if (flags &&& (1 : Int32)) = (0 : Int32) then (0 : Int64) else (1 : Int64))), .second, .val (.long ((1 : Int64) - (if (flags &&& (1 : Int32)) = (0 : Int32) then (0 : Int64) else (1 : Int64)))), .second, .val (.int (1 : Int32)), .val (.long (((if (flags &&& (1 : Int32)) = (0 : Int32) then (0 : Int64) else (1 : Int64)) + (if (flags &&& (2 : Int32)) = (0 : Int32) then (0 : Int64) else (1 : Int64))) + (if (flags &&& (4 : Int32)) = (0 : Int32) then (0 : Int64) else (1 : Int64)))), .second, .val (.long ((3 : Int64) - (((if (flags &&& (1 : Int32)) = (0 : Int32) then (0 : Int64) else (1 : Int64)) + (if (flags &&& (2 : Int32)) = (0 : Int32) then (0 : Int64) else (1 : Int64))) + (if (flags &&& (4 : Int32)) = (0 : Int32) then (0 : Int64) else (1 : Int64))))), .second] [])) t_
      refine XS.aload X19.here hx rfl (hb hby at_206) rfl rfl ?_
      show Steps p_.tables e_ below (T19.setTop (mkF m_ 208 #[.val (.int flags), .val (.long line), .second, .val (.int (if (flags &&& (1 : Int32)) = (0 : Int32) then (0 : Int32) else 1)), .val (.int (if (flags &&& (2 : Int32)) = (0 : Int32) then (0 : Int32) else 1)), .val (.int (if (flags &&& (4 : Int32)) = (0 : Int32) then (0 : Int32) else 1)), .val (.int (if (flags &&& (8 : Int32)) = (0 : Int32) then (0 : Int32) else 1)), .val (.ref b1), .val (.long (1 : Int64)), .second, .val (.long (if (flags &&& (1 : Int32)) = (0 : Int32) then (0 : Int64) else (1 : Int64))), .second, .val (.long ((1 : Int64) - (if (flags &&& (1 : Int32)) = (0 : Int32) then (0 : Int64) else (1 : Int64)))), .second, .val (.int (1 : Int32)), .val (.long (((if (flags &&& (1 : Int32)) = (0 : Int32) then (0 : Int64) else (1 : Int64)) + (if (flags &&& (2 : Int32)) = (0 : Int32) then (0 : Int64) else (1 : Int64))) + (if (flags &&& (4 : Int32)) = (0 : Int32) then (0 : Int64) else (1 : Int64)))), .second, .val (.long ((3 : Int64) - (((if (flags &&& (1 : Int32)) = (0 : Int32) then (0 : Int64) else (1 : Int64)) + (if (flags &&& (2 : Int32)) = (0 : Int32) then (0 : Int64) else (1 : Int64))) + (if (flags &&& (4 : Int32)) = (0 : Int32) then (0 : Int64) else (1 : Int64))))), .second] [(.ref b1)])) t_
      exact k_
    refine own_callV X19 hx hZ (y := (⟨"com/example/keep_count/keepcount/api/BatchResult", "denied", "()J"⟩ : MethodName)) (z := (⟨"com/example/keep_count/keepcount/api/BatchResult", "denied", "()J"⟩ : MethodName)) hown (hw _ (List.mem_of_getElem? (i := 49) rfl)) (hw _ (List.mem_of_getElem? (i := 50) rfl)) (notFace_of_selects (args := #[]) (mvT hZ (hw _ (List.mem_of_getElem? (i := 52) rfl)))) (hw _ (List.mem_of_getElem? (i := 52) rfl)) (hw _ (List.mem_of_getElem? (i := 51) rfl)) (hw _ (List.mem_of_getElem? (i := 2) rfl)) (hw _ (List.mem_of_getElem? (i := 53) rfl)) (by decide) b1 [] [] E_b1 (rm8 l Z a0 hw b1 (own_al (if (flags &&& (4 : Int32)) = (0 : Int32) then (0 : Int32) else 1) (own_al (if (flags &&& (2 : Int32)) = (0 : Int32) then (0 : Int32) else 1) (own_al (if (flags &&& (1 : Int32)) = (0 : Int32) then (0 : Int32) else 1) (0 : Int64)))) (own_de (if (flags &&& (4 : Int32)) = (0 : Int32) then (0 : Int32) else 1) (own_de (if (flags &&& (2 : Int32)) = (0 : Int32) then (0 : Int32) else 1) (own_de (if (flags &&& (1 : Int32)) = (0 : Int32) then (0 : Int32) else 1) (0 : Int64)))) ((0 : Int64) + (1 : Int64)) T18.heap n0 Z0 F_allowed_b1 F_denied_b1 F_rejected_b1) 0 (by decide) (by decide) e19 (by rw [hml]; rfl) (lenOf own_pd12 rfl) rfl (Nat.le_of_eq rfl) (hb hby at_208) (by decide) (by decide) ?_
    intro v20 T20 L20 X20 q20
    obtain ⟨rfl, N20q, e20⟩ := q20
    have N20 := Fr.app N19 N20q
    show own_Out p_ e_ below s_ _ _ _ T20 (mkF m_ 211 #[.val (.int flags), .val (.long line), .second, .val (.int (if (flags &&& (1 : Int32)) = (0 : Int32) then (0 : Int32) else 1)), .val (.int (if (flags &&& (2 : Int32)) = (0 : Int32) then (0 : Int32) else 1)), .val (.int (if (flags &&& (4 : Int32)) = (0 : Int32) then (0 : Int32) else 1)), .val (.int (if (flags &&& (8 : Int32)) = (0 : Int32) then (0 : Int32) else 1)), .val (.ref b1), .val (.long (1 : Int64)), .second, .val (.long (if (flags &&& (1 : Int32)) = (0 : Int32) then (0 : Int64) else (1 : Int64))), .second, .val (.long ((1 : Int64) - (if (flags &&& (1 : Int32)) = (0 : Int32) then (0 : Int64) else (1 : Int64)))), .second, .val (.int (1 : Int32)), .val (.long (((if (flags &&& (1 : Int32)) = (0 : Int32) then (0 : Int64) else (1 : Int64)) + (if (flags &&& (2 : Int32)) = (0 : Int32) then (0 : Int64) else (1 : Int64))) + (if (flags &&& (4 : Int32)) = (0 : Int32) then (0 : Int64) else (1 : Int64)))), .second, .val (.long ((3 : Int64) - (((if (flags &&& (1 : Int32)) = (0 : Int32) then (0 : Int64) else (1 : Int64)) + (if (flags &&& (2 : Int32)) = (0 : Int32) then (0 : Int64) else (1 : Int64))) + (if (flags &&& (4 : Int32)) = (0 : Int32) then (0 : Int64) else (1 : Int64))))), .second] [(.long (own_de (if (flags &&& (4 : Int32)) = (0 : Int32) then (0 : Int32) else 1) (own_de (if (flags &&& (2 : Int32)) = (0 : Int32) then (0 : Int32) else 1) (own_de (if (flags &&& (1 : Int32)) = (0 : Int32) then (0 : Int32) else 1) (0 : Int64)))))])
    refine own_st T20 (mkF m_ 219 #[.val (.int flags), .val (.long line), .second, .val (.int (if (flags &&& (1 : Int32)) = (0 : Int32) then (0 : Int32) else 1)), .val (.int (if (flags &&& (2 : Int32)) = (0 : Int32) then (0 : Int32) else 1)), .val (.int (if (flags &&& (4 : Int32)) = (0 : Int32) then (0 : Int32) else 1)), .val (.int (if (flags &&& (8 : Int32)) = (0 : Int32) then (0 : Int32) else 1)), .val (.ref b1), .val (.long (1 : Int64)), .second, .val (.long (if (flags &&& (1 : Int32)) = (0 : Int32) then (0 : Int64) else (1 : Int64))), .second, .val (.long ((1 : Int64) - (if (flags &&& (1 : Int32)) = (0 : Int32) then (0 : Int64) else (1 : Int64)))), .second, .val (.int (1 : Int32)), .val (.long (((if (flags &&& (1 : Int32)) = (0 : Int32) then (0 : Int64) else (1 : Int64)) + (if (flags &&& (2 : Int32)) = (0 : Int32) then (0 : Int64) else (1 : Int64))) + (if (flags &&& (4 : Int32)) = (0 : Int32) then (0 : Int64) else (1 : Int64)))), .second, .val (.long ((3 : Int64) - (((if (flags &&& (1 : Int32)) = (0 : Int32) then (0 : Int64) else (1 : Int64)) + (if (flags &&& (2 : Int32)) = (0 : Int32) then (0 : Int64) else (1 : Int64))) + (if (flags &&& (4 : Int32)) = (0 : Int32) then (0 : Int64) else (1 : Int64))))), .second] [(.ref b1)]) (fun t_ k_ => ?_) ?_
    · refine XS.lload X20.here hx rfl (hb hby at_211) rfl ?_
      show Steps p_.tables e_ below (T20.setTop (mkF m_ 213 #[.val (.int flags), .val (.long line), .second, .val (.int (if (flags &&& (1 : Int32)) = (0 : Int32) then (0 : Int32) else 1)), .val (.int (if (flags &&& (2 : Int32)) = (0 : Int32) then (0 : Int32) else 1)), .val (.int (if (flags &&& (4 : Int32)) = (0 : Int32) then (0 : Int32) else 1)), .val (.int (if (flags &&& (8 : Int32)) = (0 : Int32) then (0 : Int32) else 1)), .val (.ref b1), .val (.long (1 : Int64)), .second, .val (.long (if (flags &&& (1 : Int32)) = (0 : Int32) then (0 : Int64) else (1 : Int64))), .second, .val (.long ((1 : Int64) - (if (flags &&& (1 : Int32)) = (0 : Int32) then (0 : Int64) else (1 : Int64)))), .second, .val (.int (1 : Int32)), .val (.long (((if (flags &&& (1 : Int32)) = (0 : Int32) then (0 : Int64) else (1 : Int64)) + (if (flags &&& (2 : Int32)) = (0 : Int32) then (0 : Int64) else (1 : Int64))) + (if (flags &&& (4 : Int32)) = (0 : Int32) then (0 : Int64) else (1 : Int64)))), .second, .val (.long ((3 : Int64) - (((if (flags &&& (1 : Int32)) = (0 : Int32) then (0 : Int64) else (1 : Int64)) + (if (flags &&& (2 : Int32)) = (0 : Int32) then (0 : Int64) else (1 : Int64))) + (if (flags &&& (4 : Int32)) = (0 : Int32) then (0 : Int64) else (1 : Int64))))), .second] [(.long ((3 : Int64) - (((if (flags &&& (1 : Int32)) = (0 : Int32) then (0 : Int64) else (1 : Int64)) + (if (flags &&& (2 : Int32)) = (0 : Int32) then (0 : Int64) else (1 : Int64))) + (if (flags &&& (4 : Int32)) = (0 : Int32) then (0 : Int64) else (1 : Int64))))), (.long (own_de (if (flags &&& (4 : Int32)) = (0 : Int32) then (0 : Int32) else 1) (own_de (if (flags &&& (2 : Int32)) = (0 : Int32) then (0 : Int32) else 1) (own_de (if (flags &&& (1 : Int32)) = (0 : Int32) then (0 : Int32) else 1) (0 : Int64)))))])) t_
      refine XS.lcmp X20.here hx rfl (hb hby at_213) rfl ?_
      show Steps p_.tables e_ below (T20.setTop (mkF m_ 214 #[.val (.int flags), .val (.long line), .second, .val (.int (if (flags &&& (1 : Int32)) = (0 : Int32) then (0 : Int32) else 1)), .val (.int (if (flags &&& (2 : Int32)) = (0 : Int32) then (0 : Int32) else 1)), .val (.int (if (flags &&& (4 : Int32)) = (0 : Int32) then (0 : Int32) else 1)), .val (.int (if (flags &&& (8 : Int32)) = (0 : Int32) then (0 : Int32) else 1)), .val (.ref b1), .val (.long (1 : Int64)), .second, .val (.long (if (flags &&& (1 : Int32)) = (0 : Int32) then (0 : Int64) else (1 : Int64))), .second, .val (.long ((1 : Int64) - (if (flags &&& (1 : Int32)) = (0 : Int32) then (0 : Int64) else (1 : Int64)))), .second, .val (.int (1 : Int32)), .val (.long (((if (flags &&& (1 : Int32)) = (0 : Int32) then (0 : Int64) else (1 : Int64)) + (if (flags &&& (2 : Int32)) = (0 : Int32) then (0 : Int64) else (1 : Int64))) + (if (flags &&& (4 : Int32)) = (0 : Int32) then (0 : Int64) else (1 : Int64)))), .second, .val (.long ((3 : Int64) - (((if (flags &&& (1 : Int32)) = (0 : Int32) then (0 : Int64) else (1 : Int64)) + (if (flags &&& (2 : Int32)) = (0 : Int32) then (0 : Int64) else (1 : Int64))) + (if (flags &&& (4 : Int32)) = (0 : Int32) then (0 : Int64) else (1 : Int64))))), .second] [(.int (lcmpW (own_de (if (flags &&& (4 : Int32)) = (0 : Int32) then (0 : Int32) else 1) (own_de (if (flags &&& (2 : Int32)) = (0 : Int32) then (0 : Int32) else 1) (own_de (if (flags &&& (1 : Int32)) = (0 : Int32) then (0 : Int32) else 1) (0 : Int64)))) ((3 : Int64) - (((if (flags &&& (1 : Int32)) = (0 : Int32) then (0 : Int64) else (1 : Int64)) + (if (flags &&& (2 : Int32)) = (0 : Int32) then (0 : Int64) else (1 : Int64))) + (if (flags &&& (4 : Int32)) = (0 : Int32) then (0 : Int64) else (1 : Int64))))))])) t_
      refine XS.ifNo X20.here hx rfl (hb hby at_214) rfl ((if0 _ _).trans (teq ((lw_eq (own_de (if (flags &&& (4 : Int32)) = (0 : Int32) then (0 : Int32) else 1) (own_de (if (flags &&& (2 : Int32)) = (0 : Int32) then (0 : Int32) else 1) (own_de (if (flags &&& (1 : Int32)) = (0 : Int32) then (0 : Int32) else 1) (0 : Int64)))) ((3 : Int64) - (((if (flags &&& (1 : Int32)) = (0 : Int32) then (0 : Int64) else (1 : Int64)) + (if (flags &&& (2 : Int32)) = (0 : Int32) then (0 : Int64) else (1 : Int64))) + (if (flags &&& (4 : Int32)) = (0 : Int32) then (0 : Int64) else (1 : Int64))))).mpr (by by_cases q0 : (flags &&& (1 : Int32)) = (0 : Int32) <;> by_cases q1 : (flags &&& (2 : Int32)) = (0 : Int32) <;> by_cases q2 : (flags &&& (4 : Int32)) = (0 : Int32) <;> (try simp only [own_al, own_de, q0, q1, q2, if_true, if_false]) <;> decide : (own_de (if (flags &&& (4 : Int32)) = (0 : Int32) then (0 : Int32) else 1) (own_de (if (flags &&& (2 : Int32)) = (0 : Int32) then (0 : Int32) else 1) (own_de (if (flags &&& (1 : Int32)) = (0 : Int32) then (0 : Int32) else 1) (0 : Int64)))) = ((3 : Int64) - (((if (flags &&& (1 : Int32)) = (0 : Int32) then (0 : Int64) else (1 : Int64)) + (if (flags &&& (2 : Int32)) = (0 : Int32) then (0 : Int64) else (1 : Int64))) + (if (flags &&& (4 : Int32)) = (0 : Int32) then (0 : Int64) else (1 : Int64))))))).2) ?_
      show Steps p_.tables e_ below (T20.setTop (mkF m_ 217 #[.val (.int flags), .val (.long line), .second, .val (.int (if (flags &&& (1 : Int32)) = (0 : Int32) then (0 : Int32) else 1)), .val (.int (if (flags &&& (2 : Int32)) = (0 : Int32) then (0 : Int32) else 1)), .val (.int (if (flags &&& (4 : Int32)) = (0 : Int32) then (0 : Int32) else 1)), .val (.int (if (flags &&& (8 : Int32)) = (0 : Int32) then (0 : Int32) else 1)), .val (.ref b1), .val (.long (1 : Int64)), .second, .val (.long (if (flags &&& (1 : Int32)) = (0 : Int32) then (0 : Int64) else (1 : Int64))), .second, .val (.long ((1 : Int64) - (if (flags &&& (1 : Int32)) = (0 : Int32) then (0 : Int64) else (1 : Int64)))), .second, .val (.int (1 : Int32)), .val (.long (((if (flags &&& (1 : Int32)) = (0 : Int32) then (0 : Int64) else (1 : Int64)) + (if (flags &&& (2 : Int32)) = (0 : Int32) then (0 : Int64) else (1 : Int64))) + (if (flags &&& (4 : Int32)) = (0 : Int32) then (0 : Int64) else (1 : Int64)))), .second, .val (.long ((3 : Int64) - (((if (flags &&& (1 : Int32)) = (0 : Int32) then (0 : Int64) else (1 : Int64)) + (if (flags &&& (2 : Int32)) = (0 : Int32) then (0 : Int64) else (1 : Int64))) + (if (flags &&& (4 : Int32)) = (0 : Int32) then (0 : Int64) else (1 : Int64))))), .second] [])) t_
      refine XS.aload X20.here hx rfl (hb hby at_217) rfl rfl ?_
      show Steps p_.tables e_ below (T20.setTop (mkF m_ 219 #[.val (.int flags), .val (.long line), .second, .val (.int (if (flags &&& (1 : Int32)) = (0 : Int32) then (0 : Int32) else 1)), .val (.int (if (flags &&& (2 : Int32)) = (0 : Int32) then (0 : Int32) else 1)), .val (.int (if (flags &&& (4 : Int32)) = (0 : Int32) then (0 : Int32) else 1)), .val (.int (if (flags &&& (8 : Int32)) = (0 : Int32) then (0 : Int32) else 1)), .val (.ref b1), .val (.long (1 : Int64)), .second, .val (.long (if (flags &&& (1 : Int32)) = (0 : Int32) then (0 : Int64) else (1 : Int64))), .second, .val (.long ((1 : Int64) - (if (flags &&& (1 : Int32)) = (0 : Int32) then (0 : Int64) else (1 : Int64)))), .second, .val (.int (1 : Int32)), .val (.long (((if (flags &&& (1 : Int32)) = (0 : Int32) then (0 : Int64) else (1 : Int64)) + (if (flags &&& (2 : Int32)) = (0 : Int32) then (0 : Int64) else (1 : Int64))) + (if (flags &&& (4 : Int32)) = (0 : Int32) then (0 : Int64) else (1 : Int64)))), .second, .val (.long ((3 : Int64) - (((if (flags &&& (1 : Int32)) = (0 : Int32) then (0 : Int64) else (1 : Int64)) + (if (flags &&& (2 : Int32)) = (0 : Int32) then (0 : Int64) else (1 : Int64))) + (if (flags &&& (4 : Int32)) = (0 : Int32) then (0 : Int64) else (1 : Int64))))), .second] [(.ref b1)])) t_
      exact k_
    refine own_callV X20 hx hZ (y := (⟨"com/example/keep_count/keepcount/api/BatchResult", "rejected", "()J"⟩ : MethodName)) (z := (⟨"com/example/keep_count/keepcount/api/BatchResult", "rejected", "()J"⟩ : MethodName)) hown (hw _ (List.mem_of_getElem? (i := 55) rfl)) (hw _ (List.mem_of_getElem? (i := 56) rfl)) (notFace_of_selects (args := #[]) (mvT hZ (hw _ (List.mem_of_getElem? (i := 58) rfl)))) (hw _ (List.mem_of_getElem? (i := 58) rfl)) (hw _ (List.mem_of_getElem? (i := 57) rfl)) (hw _ (List.mem_of_getElem? (i := 2) rfl)) (hw _ (List.mem_of_getElem? (i := 59) rfl)) (by decide) b1 [] [] E_b1 (rm9 l Z a0 hw b1 (own_al (if (flags &&& (4 : Int32)) = (0 : Int32) then (0 : Int32) else 1) (own_al (if (flags &&& (2 : Int32)) = (0 : Int32) then (0 : Int32) else 1) (own_al (if (flags &&& (1 : Int32)) = (0 : Int32) then (0 : Int32) else 1) (0 : Int64)))) (own_de (if (flags &&& (4 : Int32)) = (0 : Int32) then (0 : Int32) else 1) (own_de (if (flags &&& (2 : Int32)) = (0 : Int32) then (0 : Int32) else 1) (own_de (if (flags &&& (1 : Int32)) = (0 : Int32) then (0 : Int32) else 1) (0 : Int64)))) ((0 : Int64) + (1 : Int64)) T18.heap n0 Z0 F_allowed_b1 F_denied_b1 F_rejected_b1) 0 (by decide) (by decide) e20 (by rw [hml]; rfl) (lenOf own_pd12 rfl) rfl (Nat.le_of_eq rfl) (hb hby at_219) (by decide) (by decide) ?_
    intro v21 T21 L21 X21 q21
    obtain ⟨rfl, N21q, e21⟩ := q21
    have N21 := Fr.app N20 N21q
    show own_Out p_ e_ below s_ _ _ _ T21 (mkF m_ 222 #[.val (.int flags), .val (.long line), .second, .val (.int (if (flags &&& (1 : Int32)) = (0 : Int32) then (0 : Int32) else 1)), .val (.int (if (flags &&& (2 : Int32)) = (0 : Int32) then (0 : Int32) else 1)), .val (.int (if (flags &&& (4 : Int32)) = (0 : Int32) then (0 : Int32) else 1)), .val (.int (if (flags &&& (8 : Int32)) = (0 : Int32) then (0 : Int32) else 1)), .val (.ref b1), .val (.long (1 : Int64)), .second, .val (.long (if (flags &&& (1 : Int32)) = (0 : Int32) then (0 : Int64) else (1 : Int64))), .second, .val (.long ((1 : Int64) - (if (flags &&& (1 : Int32)) = (0 : Int32) then (0 : Int64) else (1 : Int64)))), .second, .val (.int (1 : Int32)), .val (.long (((if (flags &&& (1 : Int32)) = (0 : Int32) then (0 : Int64) else (1 : Int64)) + (if (flags &&& (2 : Int32)) = (0 : Int32) then (0 : Int64) else (1 : Int64))) + (if (flags &&& (4 : Int32)) = (0 : Int32) then (0 : Int64) else (1 : Int64)))), .second, .val (.long ((3 : Int64) - (((if (flags &&& (1 : Int32)) = (0 : Int32) then (0 : Int64) else (1 : Int64)) + (if (flags &&& (2 : Int32)) = (0 : Int32) then (0 : Int64) else (1 : Int64))) + (if (flags &&& (4 : Int32)) = (0 : Int32) then (0 : Int64) else (1 : Int64))))), .second] [(.long ((0 : Int64) + (1 : Int64)))])
    refine own_st T21 (mkF m_ 230 #[.val (.int flags), .val (.long line), .second, .val (.int (if (flags &&& (1 : Int32)) = (0 : Int32) then (0 : Int32) else 1)), .val (.int (if (flags &&& (2 : Int32)) = (0 : Int32) then (0 : Int32) else 1)), .val (.int (if (flags &&& (4 : Int32)) = (0 : Int32) then (0 : Int32) else 1)), .val (.int (if (flags &&& (8 : Int32)) = (0 : Int32) then (0 : Int32) else 1)), .val (.ref b1), .val (.long (1 : Int64)), .second, .val (.long (if (flags &&& (1 : Int32)) = (0 : Int32) then (0 : Int64) else (1 : Int64))), .second, .val (.long ((1 : Int64) - (if (flags &&& (1 : Int32)) = (0 : Int32) then (0 : Int64) else (1 : Int64)))), .second, .val (.int (1 : Int32)), .val (.long (((if (flags &&& (1 : Int32)) = (0 : Int32) then (0 : Int64) else (1 : Int64)) + (if (flags &&& (2 : Int32)) = (0 : Int32) then (0 : Int64) else (1 : Int64))) + (if (flags &&& (4 : Int32)) = (0 : Int32) then (0 : Int64) else (1 : Int64)))), .second, .val (.long ((3 : Int64) - (((if (flags &&& (1 : Int32)) = (0 : Int32) then (0 : Int64) else (1 : Int64)) + (if (flags &&& (2 : Int32)) = (0 : Int32) then (0 : Int64) else (1 : Int64))) + (if (flags &&& (4 : Int32)) = (0 : Int32) then (0 : Int64) else (1 : Int64))))), .second] [(.ref b1)]) (fun t_ k_ => ?_) ?_
    · refine XS.lload X21.here hx rfl (hb hby at_222) rfl ?_
      show Steps p_.tables e_ below (T21.setTop (mkF m_ 224 #[.val (.int flags), .val (.long line), .second, .val (.int (if (flags &&& (1 : Int32)) = (0 : Int32) then (0 : Int32) else 1)), .val (.int (if (flags &&& (2 : Int32)) = (0 : Int32) then (0 : Int32) else 1)), .val (.int (if (flags &&& (4 : Int32)) = (0 : Int32) then (0 : Int32) else 1)), .val (.int (if (flags &&& (8 : Int32)) = (0 : Int32) then (0 : Int32) else 1)), .val (.ref b1), .val (.long (1 : Int64)), .second, .val (.long (if (flags &&& (1 : Int32)) = (0 : Int32) then (0 : Int64) else (1 : Int64))), .second, .val (.long ((1 : Int64) - (if (flags &&& (1 : Int32)) = (0 : Int32) then (0 : Int64) else (1 : Int64)))), .second, .val (.int (1 : Int32)), .val (.long (((if (flags &&& (1 : Int32)) = (0 : Int32) then (0 : Int64) else (1 : Int64)) + (if (flags &&& (2 : Int32)) = (0 : Int32) then (0 : Int64) else (1 : Int64))) + (if (flags &&& (4 : Int32)) = (0 : Int32) then (0 : Int64) else (1 : Int64)))), .second, .val (.long ((3 : Int64) - (((if (flags &&& (1 : Int32)) = (0 : Int32) then (0 : Int64) else (1 : Int64)) + (if (flags &&& (2 : Int32)) = (0 : Int32) then (0 : Int64) else (1 : Int64))) + (if (flags &&& (4 : Int32)) = (0 : Int32) then (0 : Int64) else (1 : Int64))))), .second] [(.long (1 : Int64)), (.long ((0 : Int64) + (1 : Int64)))])) t_
      refine XS.lcmp X21.here hx rfl (hb hby at_224) rfl ?_
      show Steps p_.tables e_ below (T21.setTop (mkF m_ 225 #[.val (.int flags), .val (.long line), .second, .val (.int (if (flags &&& (1 : Int32)) = (0 : Int32) then (0 : Int32) else 1)), .val (.int (if (flags &&& (2 : Int32)) = (0 : Int32) then (0 : Int32) else 1)), .val (.int (if (flags &&& (4 : Int32)) = (0 : Int32) then (0 : Int32) else 1)), .val (.int (if (flags &&& (8 : Int32)) = (0 : Int32) then (0 : Int32) else 1)), .val (.ref b1), .val (.long (1 : Int64)), .second, .val (.long (if (flags &&& (1 : Int32)) = (0 : Int32) then (0 : Int64) else (1 : Int64))), .second, .val (.long ((1 : Int64) - (if (flags &&& (1 : Int32)) = (0 : Int32) then (0 : Int64) else (1 : Int64)))), .second, .val (.int (1 : Int32)), .val (.long (((if (flags &&& (1 : Int32)) = (0 : Int32) then (0 : Int64) else (1 : Int64)) + (if (flags &&& (2 : Int32)) = (0 : Int32) then (0 : Int64) else (1 : Int64))) + (if (flags &&& (4 : Int32)) = (0 : Int32) then (0 : Int64) else (1 : Int64)))), .second, .val (.long ((3 : Int64) - (((if (flags &&& (1 : Int32)) = (0 : Int32) then (0 : Int64) else (1 : Int64)) + (if (flags &&& (2 : Int32)) = (0 : Int32) then (0 : Int64) else (1 : Int64))) + (if (flags &&& (4 : Int32)) = (0 : Int32) then (0 : Int64) else (1 : Int64))))), .second] [(.int (lcmpW ((0 : Int64) + (1 : Int64)) (1 : Int64)))])) t_
      refine XS.ifNo X21.here hx rfl (hb hby at_225) rfl ((if0 _ _).trans (teq ((lw_eq ((0 : Int64) + (1 : Int64)) (1 : Int64)).mpr (by by_cases q0 : (flags &&& (1 : Int32)) = (0 : Int32) <;> by_cases q1 : (flags &&& (2 : Int32)) = (0 : Int32) <;> by_cases q2 : (flags &&& (4 : Int32)) = (0 : Int32) <;> (try simp only [own_al, own_de, q0, q1, q2, if_true, if_false]) <;> decide : ((0 : Int64) + (1 : Int64)) = (1 : Int64)))).2) ?_
      show Steps p_.tables e_ below (T21.setTop (mkF m_ 228 #[.val (.int flags), .val (.long line), .second, .val (.int (if (flags &&& (1 : Int32)) = (0 : Int32) then (0 : Int32) else 1)), .val (.int (if (flags &&& (2 : Int32)) = (0 : Int32) then (0 : Int32) else 1)), .val (.int (if (flags &&& (4 : Int32)) = (0 : Int32) then (0 : Int32) else 1)), .val (.int (if (flags &&& (8 : Int32)) = (0 : Int32) then (0 : Int32) else 1)), .val (.ref b1), .val (.long (1 : Int64)), .second, .val (.long (if (flags &&& (1 : Int32)) = (0 : Int32) then (0 : Int64) else (1 : Int64))), .second, .val (.long ((1 : Int64) - (if (flags &&& (1 : Int32)) = (0 : Int32) then (0 : Int64) else (1 : Int64)))), .second, .val (.int (1 : Int32)), .val (.long (((if (flags &&& (1 : Int32)) = (0 : Int32) then (0 : Int64) else (1 : Int64)) + (if (flags &&& (2 : Int32)) = (0 : Int32) then (0 : Int64) else (1 : Int64))) + (if (flags &&& (4 : Int32)) = (0 : Int32) then (0 : Int64) else (1 : Int64)))), .second, .val (.long ((3 : Int64) - (((if (flags &&& (1 : Int32)) = (0 : Int32) then (0 : Int64) else (1 : Int64)) + (if (flags &&& (2 : Int32)) = (0 : Int32) then (0 : Int64) else (1 : Int64))) + (if (flags &&& (4 : Int32)) = (0 : Int32) then (0 : Int64) else (1 : Int64))))), .second] [])) t_
      refine XS.aload X21.here hx rfl (hb hby at_228) rfl rfl ?_
      show Steps p_.tables e_ below (T21.setTop (mkF m_ 230 #[.val (.int flags), .val (.long line), .second, .val (.int (if (flags &&& (1 : Int32)) = (0 : Int32) then (0 : Int32) else 1)), .val (.int (if (flags &&& (2 : Int32)) = (0 : Int32) then (0 : Int32) else 1)), .val (.int (if (flags &&& (4 : Int32)) = (0 : Int32) then (0 : Int32) else 1)), .val (.int (if (flags &&& (8 : Int32)) = (0 : Int32) then (0 : Int32) else 1)), .val (.ref b1), .val (.long (1 : Int64)), .second, .val (.long (if (flags &&& (1 : Int32)) = (0 : Int32) then (0 : Int64) else (1 : Int64))), .second, .val (.long ((1 : Int64) - (if (flags &&& (1 : Int32)) = (0 : Int32) then (0 : Int64) else (1 : Int64)))), .second, .val (.int (1 : Int32)), .val (.long (((if (flags &&& (1 : Int32)) = (0 : Int32) then (0 : Int64) else (1 : Int64)) + (if (flags &&& (2 : Int32)) = (0 : Int32) then (0 : Int64) else (1 : Int64))) + (if (flags &&& (4 : Int32)) = (0 : Int32) then (0 : Int64) else (1 : Int64)))), .second, .val (.long ((3 : Int64) - (((if (flags &&& (1 : Int32)) = (0 : Int32) then (0 : Int64) else (1 : Int64)) + (if (flags &&& (2 : Int32)) = (0 : Int32) then (0 : Int64) else (1 : Int64))) + (if (flags &&& (4 : Int32)) = (0 : Int32) then (0 : Int64) else (1 : Int64))))), .second] [(.ref b1)])) t_
      exact k_
    refine own_callV X21 hx hZ (y := (⟨"com/example/keep_count/keepcount/api/BatchResult", "received", "()J"⟩ : MethodName)) (z := (⟨"com/example/keep_count/keepcount/api/BatchResult", "received", "()J"⟩ : MethodName)) hown (hw _ (List.mem_of_getElem? (i := 62) rfl)) (hw _ (List.mem_of_getElem? (i := 63) rfl)) (notFace_of_selects (args := #[]) (mvT hZ (hw _ (List.mem_of_getElem? (i := 65) rfl)))) (hw _ (List.mem_of_getElem? (i := 65) rfl)) (hw _ (List.mem_of_getElem? (i := 64) rfl)) (hw _ (List.mem_of_getElem? (i := 2) rfl)) (hw _ (List.mem_of_getElem? (i := 66) rfl)) (by decide) b1 [] [] E_b1 (rm10 l Z a0 hw b1 (own_al (if (flags &&& (4 : Int32)) = (0 : Int32) then (0 : Int32) else 1) (own_al (if (flags &&& (2 : Int32)) = (0 : Int32) then (0 : Int32) else 1) (own_al (if (flags &&& (1 : Int32)) = (0 : Int32) then (0 : Int32) else 1) (0 : Int64)))) (own_de (if (flags &&& (4 : Int32)) = (0 : Int32) then (0 : Int32) else 1) (own_de (if (flags &&& (2 : Int32)) = (0 : Int32) then (0 : Int32) else 1) (own_de (if (flags &&& (1 : Int32)) = (0 : Int32) then (0 : Int32) else 1) (0 : Int64)))) ((0 : Int64) + (1 : Int64)) T18.heap n0 Z0 F_allowed_b1 F_denied_b1 F_rejected_b1) 0 (by decide) (by decide) e21 (by rw [hml]; rfl) (lenOf own_pd12 rfl) rfl (Nat.le_of_eq rfl) (hb hby at_230) (by decide) (by decide) ?_
    intro v22 T22 L22 X22 q22
    obtain ⟨rfl, N22q, e22⟩ := q22
    have N22 := Fr.app N21 N22q
    show own_Out p_ e_ below s_ _ _ _ T22 (mkF m_ 233 #[.val (.int flags), .val (.long line), .second, .val (.int (if (flags &&& (1 : Int32)) = (0 : Int32) then (0 : Int32) else 1)), .val (.int (if (flags &&& (2 : Int32)) = (0 : Int32) then (0 : Int32) else 1)), .val (.int (if (flags &&& (4 : Int32)) = (0 : Int32) then (0 : Int32) else 1)), .val (.int (if (flags &&& (8 : Int32)) = (0 : Int32) then (0 : Int32) else 1)), .val (.ref b1), .val (.long (1 : Int64)), .second, .val (.long (if (flags &&& (1 : Int32)) = (0 : Int32) then (0 : Int64) else (1 : Int64))), .second, .val (.long ((1 : Int64) - (if (flags &&& (1 : Int32)) = (0 : Int32) then (0 : Int64) else (1 : Int64)))), .second, .val (.int (1 : Int32)), .val (.long (((if (flags &&& (1 : Int32)) = (0 : Int32) then (0 : Int64) else (1 : Int64)) + (if (flags &&& (2 : Int32)) = (0 : Int32) then (0 : Int64) else (1 : Int64))) + (if (flags &&& (4 : Int32)) = (0 : Int32) then (0 : Int64) else (1 : Int64)))), .second, .val (.long ((3 : Int64) - (((if (flags &&& (1 : Int32)) = (0 : Int32) then (0 : Int64) else (1 : Int64)) + (if (flags &&& (2 : Int32)) = (0 : Int32) then (0 : Int64) else (1 : Int64))) + (if (flags &&& (4 : Int32)) = (0 : Int32) then (0 : Int64) else (1 : Int64))))), .second] [(.long (((own_al (if (flags &&& (4 : Int32)) = (0 : Int32) then (0 : Int32) else 1) (own_al (if (flags &&& (2 : Int32)) = (0 : Int32) then (0 : Int32) else 1) (own_al (if (flags &&& (1 : Int32)) = (0 : Int32) then (0 : Int32) else 1) (0 : Int64)))) + (own_de (if (flags &&& (4 : Int32)) = (0 : Int32) then (0 : Int32) else 1) (own_de (if (flags &&& (2 : Int32)) = (0 : Int32) then (0 : Int32) else 1) (own_de (if (flags &&& (1 : Int32)) = (0 : Int32) then (0 : Int32) else 1) (0 : Int64))))) + ((0 : Int64) + (1 : Int64))))])
    refine own_st T22 (mkF m_ 248 #[.val (.int flags), .val (.long line), .second, .val (.int (if (flags &&& (1 : Int32)) = (0 : Int32) then (0 : Int32) else 1)), .val (.int (if (flags &&& (2 : Int32)) = (0 : Int32) then (0 : Int32) else 1)), .val (.int (if (flags &&& (4 : Int32)) = (0 : Int32) then (0 : Int32) else 1)), .val (.int (if (flags &&& (8 : Int32)) = (0 : Int32) then (0 : Int32) else 1)), .val (.ref b1), .val (.long (1 : Int64)), .second, .val (.long (if (flags &&& (1 : Int32)) = (0 : Int32) then (0 : Int64) else (1 : Int64))), .second, .val (.long ((1 : Int64) - (if (flags &&& (1 : Int32)) = (0 : Int32) then (0 : Int64) else (1 : Int64)))), .second, .val (.int (1 : Int32)), .val (.long (((if (flags &&& (1 : Int32)) = (0 : Int32) then (0 : Int64) else (1 : Int64)) + (if (flags &&& (2 : Int32)) = (0 : Int32) then (0 : Int64) else (1 : Int64))) + (if (flags &&& (4 : Int32)) = (0 : Int32) then (0 : Int64) else (1 : Int64)))), .second, .val (.long ((3 : Int64) - (((if (flags &&& (1 : Int32)) = (0 : Int32) then (0 : Int64) else (1 : Int64)) + (if (flags &&& (2 : Int32)) = (0 : Int32) then (0 : Int64) else (1 : Int64))) + (if (flags &&& (4 : Int32)) = (0 : Int32) then (0 : Int64) else (1 : Int64))))), .second] [(.int (1 : Int32))]) (fun t_ k_ => ?_) ?_
    · refine X22.ldc2Long hx hown (mvT hZ (hw _ (List.mem_of_getElem? (i := 54) rfl))) (g := (mkF m_ 233 #[.val (.int flags), .val (.long line), .second, .val (.int (if (flags &&& (1 : Int32)) = (0 : Int32) then (0 : Int32) else 1)), .val (.int (if (flags &&& (2 : Int32)) = (0 : Int32) then (0 : Int32) else 1)), .val (.int (if (flags &&& (4 : Int32)) = (0 : Int32) then (0 : Int32) else 1)), .val (.int (if (flags &&& (8 : Int32)) = (0 : Int32) then (0 : Int32) else 1)), .val (.ref b1), .val (.long (1 : Int64)), .second, .val (.long (if (flags &&& (1 : Int32)) = (0 : Int32) then (0 : Int64) else (1 : Int64))), .second, .val (.long ((1 : Int64) - (if (flags &&& (1 : Int32)) = (0 : Int32) then (0 : Int64) else (1 : Int64)))), .second, .val (.int (1 : Int32)), .val (.long (((if (flags &&& (1 : Int32)) = (0 : Int32) then (0 : Int64) else (1 : Int64)) + (if (flags &&& (2 : Int32)) = (0 : Int32) then (0 : Int64) else (1 : Int64))) + (if (flags &&& (4 : Int32)) = (0 : Int32) then (0 : Int64) else (1 : Int64)))), .second, .val (.long ((3 : Int64) - (((if (flags &&& (1 : Int32)) = (0 : Int32) then (0 : Int64) else (1 : Int64)) + (if (flags &&& (2 : Int32)) = (0 : Int32) then (0 : Int64) else (1 : Int64))) + (if (flags &&& (4 : Int32)) = (0 : Int32) then (0 : Int64) else (1 : Int64))))), .second] [(.long (((own_al (if (flags &&& (4 : Int32)) = (0 : Int32) then (0 : Int32) else 1) (own_al (if (flags &&& (2 : Int32)) = (0 : Int32) then (0 : Int32) else 1) (own_al (if (flags &&& (1 : Int32)) = (0 : Int32) then (0 : Int32) else 1) (0 : Int64)))) + (own_de (if (flags &&& (4 : Int32)) = (0 : Int32) then (0 : Int32) else 1) (own_de (if (flags &&& (2 : Int32)) = (0 : Int32) then (0 : Int32) else 1) (own_de (if (flags &&& (1 : Int32)) = (0 : Int32) then (0 : Int32) else 1) (0 : Int64))))) + ((0 : Int64) + (1 : Int64))))])) rfl (hb hby at_233) _ ?_
      show Steps p_.tables e_ below (T22.setTop (mkF m_ 236 #[.val (.int flags), .val (.long line), .second, .val (.int (if (flags &&& (1 : Int32)) = (0 : Int32) then (0 : Int32) else 1)), .val (.int (if (flags &&& (2 : Int32)) = (0 : Int32) then (0 : Int32) else 1)), .val (.int (if (flags &&& (4 : Int32)) = (0 : Int32) then (0 : Int32) else 1)), .val (.int (if (flags &&& (8 : Int32)) = (0 : Int32) then (0 : Int32) else 1)), .val (.ref b1), .val (.long (1 : Int64)), .second, .val (.long (if (flags &&& (1 : Int32)) = (0 : Int32) then (0 : Int64) else (1 : Int64))), .second, .val (.long ((1 : Int64) - (if (flags &&& (1 : Int32)) = (0 : Int32) then (0 : Int64) else (1 : Int64)))), .second, .val (.int (1 : Int32)), .val (.long (((if (flags &&& (1 : Int32)) = (0 : Int32) then (0 : Int64) else (1 : Int64)) + (if (flags &&& (2 : Int32)) = (0 : Int32) then (0 : Int64) else (1 : Int64))) + (if (flags &&& (4 : Int32)) = (0 : Int32) then (0 : Int64) else (1 : Int64)))), .second, .val (.long ((3 : Int64) - (((if (flags &&& (1 : Int32)) = (0 : Int32) then (0 : Int64) else (1 : Int64)) + (if (flags &&& (2 : Int32)) = (0 : Int32) then (0 : Int64) else (1 : Int64))) + (if (flags &&& (4 : Int32)) = (0 : Int32) then (0 : Int64) else (1 : Int64))))), .second] [(.long (3 : Int64)), (.long (((own_al (if (flags &&& (4 : Int32)) = (0 : Int32) then (0 : Int32) else 1) (own_al (if (flags &&& (2 : Int32)) = (0 : Int32) then (0 : Int32) else 1) (own_al (if (flags &&& (1 : Int32)) = (0 : Int32) then (0 : Int32) else 1) (0 : Int64)))) + (own_de (if (flags &&& (4 : Int32)) = (0 : Int32) then (0 : Int32) else 1) (own_de (if (flags &&& (2 : Int32)) = (0 : Int32) then (0 : Int32) else 1) (own_de (if (flags &&& (1 : Int32)) = (0 : Int32) then (0 : Int32) else 1) (0 : Int64))))) + ((0 : Int64) + (1 : Int64))))])) t_
      refine XS.lload X22.here hx rfl (hb hby at_236) rfl ?_
      show Steps p_.tables e_ below (T22.setTop (mkF m_ 238 #[.val (.int flags), .val (.long line), .second, .val (.int (if (flags &&& (1 : Int32)) = (0 : Int32) then (0 : Int32) else 1)), .val (.int (if (flags &&& (2 : Int32)) = (0 : Int32) then (0 : Int32) else 1)), .val (.int (if (flags &&& (4 : Int32)) = (0 : Int32) then (0 : Int32) else 1)), .val (.int (if (flags &&& (8 : Int32)) = (0 : Int32) then (0 : Int32) else 1)), .val (.ref b1), .val (.long (1 : Int64)), .second, .val (.long (if (flags &&& (1 : Int32)) = (0 : Int32) then (0 : Int64) else (1 : Int64))), .second, .val (.long ((1 : Int64) - (if (flags &&& (1 : Int32)) = (0 : Int32) then (0 : Int64) else (1 : Int64)))), .second, .val (.int (1 : Int32)), .val (.long (((if (flags &&& (1 : Int32)) = (0 : Int32) then (0 : Int64) else (1 : Int64)) + (if (flags &&& (2 : Int32)) = (0 : Int32) then (0 : Int64) else (1 : Int64))) + (if (flags &&& (4 : Int32)) = (0 : Int32) then (0 : Int64) else (1 : Int64)))), .second, .val (.long ((3 : Int64) - (((if (flags &&& (1 : Int32)) = (0 : Int32) then (0 : Int64) else (1 : Int64)) + (if (flags &&& (2 : Int32)) = (0 : Int32) then (0 : Int64) else (1 : Int64))) + (if (flags &&& (4 : Int32)) = (0 : Int32) then (0 : Int64) else (1 : Int64))))), .second] [(.long (1 : Int64)), (.long (3 : Int64)), (.long (((own_al (if (flags &&& (4 : Int32)) = (0 : Int32) then (0 : Int32) else 1) (own_al (if (flags &&& (2 : Int32)) = (0 : Int32) then (0 : Int32) else 1) (own_al (if (flags &&& (1 : Int32)) = (0 : Int32) then (0 : Int32) else 1) (0 : Int64)))) + (own_de (if (flags &&& (4 : Int32)) = (0 : Int32) then (0 : Int32) else 1) (own_de (if (flags &&& (2 : Int32)) = (0 : Int32) then (0 : Int32) else 1) (own_de (if (flags &&& (1 : Int32)) = (0 : Int32) then (0 : Int32) else 1) (0 : Int64))))) + ((0 : Int64) + (1 : Int64))))])) t_
      refine XS.ladd X22.here hx rfl (hb hby at_238) rfl ?_
      show Steps p_.tables e_ below (T22.setTop (mkF m_ 239 #[.val (.int flags), .val (.long line), .second, .val (.int (if (flags &&& (1 : Int32)) = (0 : Int32) then (0 : Int32) else 1)), .val (.int (if (flags &&& (2 : Int32)) = (0 : Int32) then (0 : Int32) else 1)), .val (.int (if (flags &&& (4 : Int32)) = (0 : Int32) then (0 : Int32) else 1)), .val (.int (if (flags &&& (8 : Int32)) = (0 : Int32) then (0 : Int32) else 1)), .val (.ref b1), .val (.long (1 : Int64)), .second, .val (.long (if (flags &&& (1 : Int32)) = (0 : Int32) then (0 : Int64) else (1 : Int64))), .second, .val (.long ((1 : Int64) - (if (flags &&& (1 : Int32)) = (0 : Int32) then (0 : Int64) else (1 : Int64)))), .second, .val (.int (1 : Int32)), .val (.long (((if (flags &&& (1 : Int32)) = (0 : Int32) then (0 : Int64) else (1 : Int64)) + (if (flags &&& (2 : Int32)) = (0 : Int32) then (0 : Int64) else (1 : Int64))) + (if (flags &&& (4 : Int32)) = (0 : Int32) then (0 : Int64) else (1 : Int64)))), .second, .val (.long ((3 : Int64) - (((if (flags &&& (1 : Int32)) = (0 : Int32) then (0 : Int64) else (1 : Int64)) + (if (flags &&& (2 : Int32)) = (0 : Int32) then (0 : Int64) else (1 : Int64))) + (if (flags &&& (4 : Int32)) = (0 : Int32) then (0 : Int64) else (1 : Int64))))), .second] [(.long ((3 : Int64) + (1 : Int64))), (.long (((own_al (if (flags &&& (4 : Int32)) = (0 : Int32) then (0 : Int32) else 1) (own_al (if (flags &&& (2 : Int32)) = (0 : Int32) then (0 : Int32) else 1) (own_al (if (flags &&& (1 : Int32)) = (0 : Int32) then (0 : Int32) else 1) (0 : Int64)))) + (own_de (if (flags &&& (4 : Int32)) = (0 : Int32) then (0 : Int32) else 1) (own_de (if (flags &&& (2 : Int32)) = (0 : Int32) then (0 : Int32) else 1) (own_de (if (flags &&& (1 : Int32)) = (0 : Int32) then (0 : Int32) else 1) (0 : Int64))))) + ((0 : Int64) + (1 : Int64))))])) t_
      refine XS.lcmp X22.here hx rfl (hb hby at_239) rfl ?_
      show Steps p_.tables e_ below (T22.setTop (mkF m_ 240 #[.val (.int flags), .val (.long line), .second, .val (.int (if (flags &&& (1 : Int32)) = (0 : Int32) then (0 : Int32) else 1)), .val (.int (if (flags &&& (2 : Int32)) = (0 : Int32) then (0 : Int32) else 1)), .val (.int (if (flags &&& (4 : Int32)) = (0 : Int32) then (0 : Int32) else 1)), .val (.int (if (flags &&& (8 : Int32)) = (0 : Int32) then (0 : Int32) else 1)), .val (.ref b1), .val (.long (1 : Int64)), .second, .val (.long (if (flags &&& (1 : Int32)) = (0 : Int32) then (0 : Int64) else (1 : Int64))), .second, .val (.long ((1 : Int64) - (if (flags &&& (1 : Int32)) = (0 : Int32) then (0 : Int64) else (1 : Int64)))), .second, .val (.int (1 : Int32)), .val (.long (((if (flags &&& (1 : Int32)) = (0 : Int32) then (0 : Int64) else (1 : Int64)) + (if (flags &&& (2 : Int32)) = (0 : Int32) then (0 : Int64) else (1 : Int64))) + (if (flags &&& (4 : Int32)) = (0 : Int32) then (0 : Int64) else (1 : Int64)))), .second, .val (.long ((3 : Int64) - (((if (flags &&& (1 : Int32)) = (0 : Int32) then (0 : Int64) else (1 : Int64)) + (if (flags &&& (2 : Int32)) = (0 : Int32) then (0 : Int64) else (1 : Int64))) + (if (flags &&& (4 : Int32)) = (0 : Int32) then (0 : Int64) else (1 : Int64))))), .second] [(.int (lcmpW (((own_al (if (flags &&& (4 : Int32)) = (0 : Int32) then (0 : Int32) else 1) (own_al (if (flags &&& (2 : Int32)) = (0 : Int32) then (0 : Int32) else 1) (own_al (if (flags &&& (1 : Int32)) = (0 : Int32) then (0 : Int32) else 1) (0 : Int64)))) + (own_de (if (flags &&& (4 : Int32)) = (0 : Int32) then (0 : Int32) else 1) (own_de (if (flags &&& (2 : Int32)) = (0 : Int32) then (0 : Int32) else 1) (own_de (if (flags &&& (1 : Int32)) = (0 : Int32) then (0 : Int32) else 1) (0 : Int64))))) + ((0 : Int64) + (1 : Int64))) ((3 : Int64) + (1 : Int64))))])) t_
      refine XS.ifNo X22.here hx rfl (hb hby at_240) rfl ((if0 _ _).trans (teq ((lw_eq (((own_al (if (flags &&& (4 : Int32)) = (0 : Int32) then (0 : Int32) else 1) (own_al (if (flags &&& (2 : Int32)) = (0 : Int32) then (0 : Int32) else 1) (own_al (if (flags &&& (1 : Int32)) = (0 : Int32) then (0 : Int32) else 1) (0 : Int64)))) + (own_de (if (flags &&& (4 : Int32)) = (0 : Int32) then (0 : Int32) else 1) (own_de (if (flags &&& (2 : Int32)) = (0 : Int32) then (0 : Int32) else 1) (own_de (if (flags &&& (1 : Int32)) = (0 : Int32) then (0 : Int32) else 1) (0 : Int64))))) + ((0 : Int64) + (1 : Int64))) ((3 : Int64) + (1 : Int64))).mpr (by by_cases q0 : (flags &&& (1 : Int32)) = (0 : Int32) <;> by_cases q1 : (flags &&& (2 : Int32)) = (0 : Int32) <;> by_cases q2 : (flags &&& (4 : Int32)) = (0 : Int32) <;> (try simp only [own_al, own_de, q0, q1, q2, if_true, if_false]) <;> decide : (((own_al (if (flags &&& (4 : Int32)) = (0 : Int32) then (0 : Int32) else 1) (own_al (if (flags &&& (2 : Int32)) = (0 : Int32) then (0 : Int32) else 1) (own_al (if (flags &&& (1 : Int32)) = (0 : Int32) then (0 : Int32) else 1) (0 : Int64)))) + (own_de (if (flags &&& (4 : Int32)) = (0 : Int32) then (0 : Int32) else 1) (own_de (if (flags &&& (2 : Int32)) = (0 : Int32) then (0 : Int32) else 1) (own_de (if (flags &&& (1 : Int32)) = (0 : Int32) then (0 : Int32) else 1) (0 : Int64))))) + ((0 : Int64) + (1 : Int64))) = ((3 : Int64) + (1 : Int64))))).2) ?_
      show Steps p_.tables e_ below (T22.setTop (mkF m_ 243 #[.val (.int flags), .val (.long line), .second, .val (.int (if (flags &&& (1 : Int32)) = (0 : Int32) then (0 : Int32) else 1)), .val (.int (if (flags &&& (2 : Int32)) = (0 : Int32) then (0 : Int32) else 1)), .val (.int (if (flags &&& (4 : Int32)) = (0 : Int32) then (0 : Int32) else 1)), .val (.int (if (flags &&& (8 : Int32)) = (0 : Int32) then (0 : Int32) else 1)), .val (.ref b1), .val (.long (1 : Int64)), .second, .val (.long (if (flags &&& (1 : Int32)) = (0 : Int32) then (0 : Int64) else (1 : Int64))), .second, .val (.long ((1 : Int64) - (if (flags &&& (1 : Int32)) = (0 : Int32) then (0 : Int64) else (1 : Int64)))), .second, .val (.int (1 : Int32)), .val (.long (((if (flags &&& (1 : Int32)) = (0 : Int32) then (0 : Int64) else (1 : Int64)) + (if (flags &&& (2 : Int32)) = (0 : Int32) then (0 : Int64) else (1 : Int64))) + (if (flags &&& (4 : Int32)) = (0 : Int32) then (0 : Int64) else (1 : Int64)))), .second, .val (.long ((3 : Int64) - (((if (flags &&& (1 : Int32)) = (0 : Int32) then (0 : Int64) else (1 : Int64)) + (if (flags &&& (2 : Int32)) = (0 : Int32) then (0 : Int64) else (1 : Int64))) + (if (flags &&& (4 : Int32)) = (0 : Int32) then (0 : Int64) else (1 : Int64))))), .second] [])) t_
      refine XS.iconst X22.here hx rfl (hb hby at_243) ?_
      show Steps p_.tables e_ below (T22.setTop (mkF m_ 244 #[.val (.int flags), .val (.long line), .second, .val (.int (if (flags &&& (1 : Int32)) = (0 : Int32) then (0 : Int32) else 1)), .val (.int (if (flags &&& (2 : Int32)) = (0 : Int32) then (0 : Int32) else 1)), .val (.int (if (flags &&& (4 : Int32)) = (0 : Int32) then (0 : Int32) else 1)), .val (.int (if (flags &&& (8 : Int32)) = (0 : Int32) then (0 : Int32) else 1)), .val (.ref b1), .val (.long (1 : Int64)), .second, .val (.long (if (flags &&& (1 : Int32)) = (0 : Int32) then (0 : Int64) else (1 : Int64))), .second, .val (.long ((1 : Int64) - (if (flags &&& (1 : Int32)) = (0 : Int32) then (0 : Int64) else (1 : Int64)))), .second, .val (.int (1 : Int32)), .val (.long (((if (flags &&& (1 : Int32)) = (0 : Int32) then (0 : Int64) else (1 : Int64)) + (if (flags &&& (2 : Int32)) = (0 : Int32) then (0 : Int64) else (1 : Int64))) + (if (flags &&& (4 : Int32)) = (0 : Int32) then (0 : Int64) else (1 : Int64)))), .second, .val (.long ((3 : Int64) - (((if (flags &&& (1 : Int32)) = (0 : Int32) then (0 : Int64) else (1 : Int64)) + (if (flags &&& (2 : Int32)) = (0 : Int32) then (0 : Int64) else (1 : Int64))) + (if (flags &&& (4 : Int32)) = (0 : Int32) then (0 : Int64) else (1 : Int64))))), .second] [(.int (1 : Int32))])) t_
      refine XS.goto X22.here hx rfl (pc0 := 244) (pc' := 248) rfl (hb hby at_244) (by decide) (by decide) ?_
      show Steps p_.tables e_ below (T22.setTop (mkF m_ 248 #[.val (.int flags), .val (.long line), .second, .val (.int (if (flags &&& (1 : Int32)) = (0 : Int32) then (0 : Int32) else 1)), .val (.int (if (flags &&& (2 : Int32)) = (0 : Int32) then (0 : Int32) else 1)), .val (.int (if (flags &&& (4 : Int32)) = (0 : Int32) then (0 : Int32) else 1)), .val (.int (if (flags &&& (8 : Int32)) = (0 : Int32) then (0 : Int32) else 1)), .val (.ref b1), .val (.long (1 : Int64)), .second, .val (.long (if (flags &&& (1 : Int32)) = (0 : Int32) then (0 : Int64) else (1 : Int64))), .second, .val (.long ((1 : Int64) - (if (flags &&& (1 : Int32)) = (0 : Int32) then (0 : Int64) else (1 : Int64)))), .second, .val (.int (1 : Int32)), .val (.long (((if (flags &&& (1 : Int32)) = (0 : Int32) then (0 : Int64) else (1 : Int64)) + (if (flags &&& (2 : Int32)) = (0 : Int32) then (0 : Int64) else (1 : Int64))) + (if (flags &&& (4 : Int32)) = (0 : Int32) then (0 : Int64) else (1 : Int64)))), .second, .val (.long ((3 : Int64) - (((if (flags &&& (1 : Int32)) = (0 : Int32) then (0 : Int64) else (1 : Int64)) + (if (flags &&& (2 : Int32)) = (0 : Int32) then (0 : Int64) else (1 : Int64))) + (if (flags &&& (4 : Int32)) = (0 : Int32) then (0 : Int64) else (1 : Int64))))), .second] [(.int (1 : Int32))])) t_
      exact k_
    refine own_retN X22 hx hlk (t := .boolean) hret (by simp) (hb hby at_248) (by decide) (by decide) ?_
    exact ⟨rfl, N22⟩
set_option maxRecDepth 65536 in
set_option maxHeartbeats 40000000 in
theorem comes_1 {Post : Tables → Env → Array Value → State → Outcome → State → Prop} (hpost : ∀ tb e args s v u, (limb_1_1.after args s (.returned v) u = true ∧ limb_1_2.after args s (.returned v) u = true ∧ True) → FrameEnd s (.returned v) u (Jvm.fieldLocs frame_1_writes args s ++ Jvm.arrayLocs frame_1_arrays args s ++ Jvm.staticLocs frame_1_statics s) 24 128 → Post tb e args s (.returned v) u) :
    ArmFor flags0 classFile x code maxLocals ret World_1 tables_1 room_1 Calls_1 rest_1 Pre_1 Post := by
  intro l hfl _ _ p e ha hc hk s m args below hf hA hF happ hP
  obtain ⟨hcalls, hrest, hpre⟩ := hP
  obtain ⟨-, -, -, hnamed, -, -, -, hat⟩ := (Spec.applies_iff hf).mp happ
  obtain ⟨hg, hn⟩ := and_e (Cond.before_iff.mp (show (Jvm.Cond.and given_1 narrow_1).before args s = true from hpre))
  obtain ⟨c0, r0⟩ := and_e hg
  obtain ⟨k0, r1⟩ := and_e r0
  obtain ⟨w0, w1, rfl⟩ : ∃ w0 w1 : Value, args = #[w0, w1] := by
    have hs : args.size = 2 := by simpa [Cond.value, given_1] using c0
    obtain ⟨L⟩ := args
    match L, hs with
    | [w0, w1], _ => exact ⟨w0, w1, rfl⟩
  have hw := fun d (hd : d ∈ tables_1) => atoms_spec (ws := Jvm.Cond.code x code maxLocals ret :: tables_1) hat d (List.mem_cons_of_mem _ hd)
  have hfit : Fit s := fun {y c} hc i hi => by
    obtain ⟨ha, rfl⟩ := Array.getElem?_eq_some_iff.mp hc
    have q := List.all_eq_true.mp ((Array.all_eq_true_iff_forall_mem.mp hF) _ (Array.getElem_mem ha)) i (List.mem_range.mpr hi)
    simpa [Array.getElem?_eq_getElem hi] using q
  obtain ⟨i0, ei0⟩ := is_v k0
  obtain rfl : w0 = (.int i0) := Option.some.inj ei0
  obtain ⟨i1, ei1⟩ := isL_v r1
  obtain rfl : w1 = (.long i1) := Option.some.inj ei1
  obtain ⟨hsets, hown0⟩ := atoms_of _ (rest_1_c_eq ▸ (show rest_1_c.before _ s = true from hrest))
  obtain ⟨de, ev⟩ := exa_v (Cond.before_iff.mp (hsets _ (List.mem_of_getElem? (i := 7) rfl)))
  have Sd := Sta.start ev (Or.inr ⟨(hw _ (List.mem_of_getElem? (i := 11) rfl)), (hsets _ (List.mem_of_getElem? (i := 2) rfl))⟩)
  obtain ⟨cl, Ad⟩ := Arr.start ev (Cond.before_iff.mp (hsets _ (List.mem_of_getElem? (i := 6) rfl)))
  have hsz := own_sz0 ev Ad (Cond.before_iff.mp (hsets _ (List.mem_of_getElem? (i := 8) rfl)))
  have Ad' := own_A0 Ad hsz
  obtain ⟨cs, ec⟩ := is_v (Cond.before_iff.mp (hsets _ (List.mem_of_getElem? (i := 10) rfl)))
  have Sc := Sta.start ec (Or.inl (hsets _ (List.mem_of_getElem? (i := 9) rfl)))
  have hcs := own_cs ec (Cond.before_iff.mp (hsets _ (List.mem_of_getElem? (i := 11) rfl)))
  obtain ⟨n, o, h1, h2, h3, _, L, rfl, ⟨rfl, N⟩, hq⟩ := rm0 l s _ hw i0 i1 de cl.cls cs s.heap s.heap.size (Nat.le_refl _) (Old.start s) Sd Ad' Sc hcs tables_1 p e ha hc hk s m _ below hf ((Spec.applies_iff_loose hf).mp happ).1 ⟨rfl, State.Warmed39.refl s, rfl⟩ trivial
  refine ⟨n, _, h1, h2, h3, hpost _ _ _ _ _ _ ⟨Cond.after_iff.mpr rfl, Cond.after_iff.mpr (eq_i res_at (Term.int_eval (1)) rfl), trivial⟩ ⟨hq.1, hq.2.1, (hq.2.2.sift fun y hy => Or.inr (N y hy)).mono (by decide) (by decide)⟩⟩
theorem main_1_1 : Claimed_1_1 := comes_1 fun _ _ _ _ _ _ h hF => ⟨h.1, hF⟩
theorem main_1_2 : Claimed_1_2 := comes_1 fun _ _ _ _ _ _ h hF => ⟨h.2.1, hF⟩
end Jvm.Pilot.@@N@@
namespace Jvm.Pilot.@@N@@
open Jvm Jvm.ClassFile Sem Op Lib Jvm.Free Jvm.Stand Jvm.Pilot.@@N@@.Jvm.D
/-! MADE BY PROGRAM (witnessworld.py) out of the Statement's table words and the real class files: 29 classes; the members and pool entries that the words name. The judged class is class 1, her method 1. -/
namespace start1
open Jvm.ClassFile
def u (s : String) : CpInfo := .utf8 (stringToUtf16 s)
/-- a pool by its gaps: so many unusable entries, then the entry; so many at the end -/
def gap : Nat → List CpInfo → List CpInfo
  | 0, r => r
  | n + 1, r => .unusable :: gap n r
def poolList (es : List (Nat × CpInfo)) (last : Nat) : List CpInfo := es.foldr (fun e r => gap e.1 (e.2 :: r)) (gap last [])
def pool (es : List (Nat × CpInfo)) (last : Nat) : Array CpInfo := ⟨poolList es last⟩
def fileOf (pool : Array CpInfo) (this : Nat) (attrs : Array Attribute := #[]) (ms : Array MethodInfo := #[]) (fl : Nat := 33) (sup : Nat := 0) (ifs : Array Nat := #[]) (fds : Array FieldInfo := #[]) : ClassFile where
  minorVersion := 0
  majorVersion := 65
  constantPool := pool
  accessFlags := fl
  thisClass := this
  superClass := sup
  interfaces := ifs
  fields := fds
  methods := ms
  attributes := attrs
def plain (name : String) (sup : Option ClassId) : Class where
  name := name
  kind := .ordinary
  loader := none
  accessFlags := 33
  super := sup
  interfaces := #[]
  cf := none
  fields := #[]
  methods := #[]
  instanceTypes := #[]
  staticTypes := #[]
  resolved := #[]
  callSites := []
  init := .initialized
  statics := none
  mirror := none

def pool0 : Array CpInfo := pool [(5, u "<init>"), (0, u "()V"), (1, .class_ 10), (1, u "java/lang/Object")] 113

def k0c0 : Code := { maxStack := 0, maxLocals := 1, code := object_method_1_code, exceptionTable := #[], attributes := #[] }
def k0m0 : Method := { name := "<init>", desc := "()V", sig := { parameters := [], returnType := none }, accessFlags := 1, code := some k0c0 }
/-- java/lang/Object -/
def k0 : Class := { plain "java/lang/Object" none with
  accessFlags := 33
  interfaces := #[]
  cf := some (fileOf pool0 8 #[] #[{ accessFlags := 1, nameIndex := 5, descriptorIndex := 6, attributes := #[] }] 33 0 #[] #[])
  fields := #[]
  methods := #[k0m0]
  instanceTypes := #[]
  staticTypes := #[]
  resolved := Array.replicate 124 none
  statics := none }

def pool1 : Array CpInfo := pool [(2, .class_ 4), (0, .nameAndType 5 6), (0, u "java/lang/Object"), (0, u "<init>"), (0, u "()V"), (0, .class_ 8), (0, u "com/example/keep_count/keepcount/api/BatchResult"), (0, .methodref 7 3), (0, .methodref 11 12), (0, .class_ 13), (0, .nameAndType 14 15), (0, u "java/lang/String"), (0, u "valueOf"), (0, u "(C)Ljava/lang/String;"), (0, .methodref 7 17), (0, .nameAndType 18 19), (0, u "rejected"), (0, u "(JLjava/lang/String;)V"), (0, .methodref 7 21), (0, .nameAndType 22 23), (0, u "checked"), (0, u "(Z)V"), (0, .methodref 7 25), (0, .nameAndType 26 27), (0, u "allowed"), (0, u "()J"), (0, .methodref 7 29), (0, .nameAndType 30 27), (0, u "denied"), (0, .long 3), (1, .methodref 7 34), (0, .nameAndType 18 27), (0, .methodref 7 36), (0, .nameAndType 37 27), (0, u "received"), (0, .class_ 39), (0, u "com/example/keep_count/keepcount/api/BatchResultCheckedPinLaw"), (2, u "law"), (0, u "(IJ)Z")] 3

def k1m0 : Method := { name := "<init>", desc := "()V", sig := { parameters := [], returnType := none }, accessFlags := 1, code := none }
def k1c1 : Code := { maxStack := 6, maxLocals := 19, code := code, exceptionTable := #[], attributes := #[] }
def k1m1 : Method := { name := "law", desc := "(IJ)Z", sig := { parameters := [.int, .long], returnType := some .boolean }, accessFlags := 9, code := some k1c1 }
/-- com/example/keep_count/keepcount/api/BatchResultCheckedPinLaw -/
def k1 : Class := { plain "com/example/keep_count/keepcount/api/BatchResultCheckedPinLaw" (some 0) with
  accessFlags := 49
  interfaces := #[]
  cf := some (fileOf pool1 38 #[] #[{ accessFlags := 1, nameIndex := 5, descriptorIndex := 6, attributes := #[] }, { accessFlags := 9, nameIndex := 42, descriptorIndex := 43, attributes := #[] }] 49 2 #[] #[])
  fields := #[]
  methods := #[k1m0, k1m1]
  instanceTypes := #[]
  staticTypes := #[]
  resolved := Array.replicate 47 none
  statics := none }

def pool2 : Array CpInfo := pool [(1, .methodref 2 3), (0, .class_ 4), (0, .nameAndType 5 6), (0, u "java/lang/Object"), (0, u "<init>"), (0, u "()V"), (0, .class_ 8), (0, u "java/util/ArrayList"), (0, .methodref 7 3), (0, .fieldref 11 12), (0, .class_ 13), (0, .nameAndType 14 15), (0, u "com/example/keep_count/keepcount/api/BatchResult"), (0, u "rejections"), (0, u "Ljava/util/List;"), (0, .fieldref 11 17), (0, .nameAndType 18 19), (0, u "allowed"), (0, u "J"), (0, .fieldref 11 21), (0, .nameAndType 22 19), (0, u "denied"), (0, .fieldref 11 24), (0, .nameAndType 25 19), (0, u "rejected"), (0, .interfaceMethodref 27 28), (0, .class_ 29), (0, .nameAndType 30 31), (0, u "java/util/List"), (0, u "size"), (0, u "()I"), (0, .class_ 33), (0, u "com/example/keep_count/keepcount/api/BatchResult$Rejection"), (0, .methodref 32 35), (0, .nameAndType 5 36), (0, u "(JLjava/lang/String;)V"), (0, .interfaceMethodref 27 38), (0, .nameAndType 39 40), (0, u "add"), (0, u "(Ljava/lang/Object;)Z"), (0, u "REJECTIONS_LISTED"), (0, u "I"), (6, u "checked"), (0, u "(Z)V"), (1, u "received"), (0, u "()J")] 7

def k2c0 : Code := { maxStack := 3, maxLocals := 1, code := prog_11_method_1_code, exceptionTable := #[], attributes := #[] }
def k2m0 : Method := { name := "<init>", desc := "()V", sig := { parameters := [], returnType := none }, accessFlags := 0, code := some k2c0 }
def k2c1 : Code := { maxStack := 5, maxLocals := 2, code := prog_11_method_2_code, exceptionTable := #[], attributes := #[] }
def k2m1 : Method := { name := "checked", desc := "(Z)V", sig := { parameters := [.boolean], returnType := none }, accessFlags := 0, code := some k2c1 }
def k2c2 : Code := { maxStack := 6, maxLocals := 4, code := prog_11_method_3_code, exceptionTable := #[], attributes := #[] }
def k2m2 : Method := { name := "rejected", desc := "(JLjava/lang/String;)V", sig := { parameters := [.long, (.object "java/lang/String")], returnType := none }, accessFlags := 0, code := some k2c2 }
def k2c3 : Code := { maxStack := 4, maxLocals := 1, code := prog_11_method_4_code, exceptionTable := #[], attributes := #[] }
def k2m3 : Method := { name := "received", desc := "()J", sig := { parameters := [], returnType := some .long }, accessFlags := 0, code := some k2c3 }
def k2c4 : Code := { maxStack := 2, maxLocals := 1, code := prog_11_method_5_code, exceptionTable := #[], attributes := #[] }
def k2m4 : Method := { name := "allowed", desc := "()J", sig := { parameters := [], returnType := some .long }, accessFlags := 0, code := some k2c4 }
def k2c5 : Code := { maxStack := 2, maxLocals := 1, code := prog_11_method_6_code, exceptionTable := #[], attributes := #[] }
def k2m5 : Method := { name := "denied", desc := "()J", sig := { parameters := [], returnType := some .long }, accessFlags := 0, code := some k2c5 }
def k2c6 : Code := { maxStack := 2, maxLocals := 1, code := prog_11_method_7_code, exceptionTable := #[], attributes := #[] }
def k2m6 : Method := { name := "rejected", desc := "()J", sig := { parameters := [], returnType := some .long }, accessFlags := 0, code := some k2c6 }
/-- com/example/keep_count/keepcount/api/BatchResult -/
def k2 : Class := { plain "com/example/keep_count/keepcount/api/BatchResult" (some 0) with
  accessFlags := 32
  interfaces := #[]
  cf := some (fileOf pool2 11 #[.nestMembers #[32]] #[{ accessFlags := 0, nameIndex := 5, descriptorIndex := 6, attributes := #[] }, { accessFlags := 0, nameIndex := 49, descriptorIndex := 50, attributes := #[] }, { accessFlags := 0, nameIndex := 25, descriptorIndex := 36, attributes := #[] }, { accessFlags := 0, nameIndex := 52, descriptorIndex := 53, attributes := #[] }, { accessFlags := 0, nameIndex := 18, descriptorIndex := 53, attributes := #[] }, { accessFlags := 0, nameIndex := 22, descriptorIndex := 53, attributes := #[] }, { accessFlags := 0, nameIndex := 25, descriptorIndex := 53, attributes := #[] }] 32 2 #[] #[{ accessFlags := 24, nameIndex := 41, descriptorIndex := 42, attributes := #[] }, { accessFlags := 2, nameIndex := 18, descriptorIndex := 19, attributes := #[] }, { accessFlags := 2, nameIndex := 22, descriptorIndex := 19, attributes := #[] }, { accessFlags := 2, nameIndex := 25, descriptorIndex := 19, attributes := #[] }, { accessFlags := 18, nameIndex := 14, descriptorIndex := 15, attributes := #[] }])
  fields := #[{ name := "REJECTIONS_LISTED", type := .int, accessFlags := 24, slot := 0, constantValue := 0 }, { name := "allowed", type := .long, accessFlags := 2, slot := 0, constantValue := 0 }, { name := "denied", type := .long, accessFlags := 2, slot := 1, constantValue := 0 }, { name := "rejected", type := .long, accessFlags := 2, slot := 2, constantValue := 0 }, { name := "rejections", type := (.object "java/util/List"), accessFlags := 18, slot := 3, constantValue := 0 }]
  methods := #[k2m0, k2m1, k2m2, k2m3, k2m4, k2m5, k2m6]
  instanceTypes := #[.long, .long, .long, (.object "java/util/List")]
  staticTypes := #[.int]
  resolved := Array.replicate 61 none
  statics := none }

def pool3 : Array CpInfo := pool [(8, .class_ 10), (1, u "java/lang/Iterable"), (24, .class_ 36), (0, u "java/lang/Object")] 25

/-- java/lang/Iterable -/
def k3 : Class := { plain "java/lang/Iterable" (some 0) with
  accessFlags := 1537
  interfaces := #[]
  cf := some (fileOf pool3 8 #[] #[] 1537 35 #[] #[])
  fields := #[]
  methods := #[]
  instanceTypes := #[]
  staticTypes := #[]
  resolved := Array.replicate 62 none
  statics := none }

def pool4 : Array CpInfo := pool [(10, .class_ 12), (1, u "java/util/Collection"), (47, .class_ 61), (0, u "java/lang/Object"), (0, .class_ 63), (0, u "java/lang/Iterable")] 51

/-- java/util/Collection -/
def k4 : Class := { plain "java/util/Collection" (some 0) with
  accessFlags := 1537
  interfaces := #[3]
  cf := some (fileOf pool4 10 #[] #[] 1537 60 #[62] #[])
  fields := #[]
  methods := #[]
  instanceTypes := #[]
  staticTypes := #[]
  resolved := Array.replicate 115 none
  statics := none }

def pool5 : Array CpInfo := pool [(1, .methodref 2 3), (0, .class_ 4), (0, .nameAndType 5 6), (0, u "java/lang/Object"), (0, u "<init>"), (0, u "()V"), (1, .class_ 10), (1, u "java/util/AbstractCollection"), (66, .class_ 78), (0, u "java/util/Collection")] 81

def k5c0 : Code := { maxStack := 1, maxLocals := 1, code := jdk_22_method_1_code, exceptionTable := #[], attributes := #[] }
def k5m0 : Method := { name := "<init>", desc := "()V", sig := { parameters := [], returnType := none }, accessFlags := 4, code := some k5c0 }
/-- java/util/AbstractCollection -/
def k5 : Class := { plain "java/util/AbstractCollection" (some 0) with
  accessFlags := 1057
  interfaces := #[4]
  cf := some (fileOf pool5 8 #[] #[{ accessFlags := 4, nameIndex := 5, descriptorIndex := 6, attributes := #[] }] 1057 2 #[77] #[])
  fields := #[]
  methods := #[k5m0]
  instanceTypes := #[]
  staticTypes := #[]
  resolved := Array.replicate 160 none
  statics := none }

def pool6 : Array CpInfo := pool [(8, .class_ 10), (1, u "java/util/SequencedCollection"), (15, .class_ 27), (0, u "java/lang/Object"), (0, .class_ 29), (0, u "java/util/Collection")] 27

/-- java/util/SequencedCollection -/
def k6 : Class := { plain "java/util/SequencedCollection" (some 0) with
  accessFlags := 1537
  interfaces := #[4]
  cf := some (fileOf pool6 8 #[] #[] 1537 26 #[28] #[])
  fields := #[]
  methods := #[]
  instanceTypes := #[]
  staticTypes := #[]
  resolved := Array.replicate 57 none
  statics := none }

def pool7 : Array CpInfo := pool [(8, .class_ 10), (1, u "java/util/List"), (49, u "add"), (3, u "(Ljava/lang/Object;)Z"), (14, u "size"), (0, u "()I"), (22, .class_ 104), (0, u "java/lang/Object"), (15, .class_ 121), (0, u "java/util/SequencedCollection")] 129

def k7m0 : Method := { name := "size", desc := "()I", sig := { parameters := [], returnType := some .int }, accessFlags := 1025, code := none }
def k7m1 : Method := { name := "add", desc := "(Ljava/lang/Object;)Z", sig := { parameters := [(.object "java/lang/Object")], returnType := some .boolean }, accessFlags := 1025, code := none }
/-- java/util/List -/
def k7 : Class := { plain "java/util/List" (some 0) with
  accessFlags := 1537
  interfaces := #[6]
  cf := some (fileOf pool7 8 #[] #[{ accessFlags := 1025, nameIndex := 79, descriptorIndex := 80, attributes := #[] }, { accessFlags := 1025, nameIndex := 60, descriptorIndex := 64, attributes := #[] }] 1537 103 #[120] #[])
  fields := #[]
  methods := #[k7m0, k7m1]
  instanceTypes := #[]
  staticTypes := #[]
  resolved := Array.replicate 251 none
  statics := none }

def pool8 : Array CpInfo := pool [(1, .methodref 2 3), (0, .class_ 4), (0, .nameAndType 5 6), (0, u "java/util/AbstractCollection"), (0, u "<init>"), (0, u "()V"), (0, .fieldref 8 9), (0, .class_ 10), (0, .nameAndType 11 12), (0, u "java/util/AbstractList"), (0, u "modCount"), (0, u "I"), (64, .class_ 78), (0, u "java/util/AbstractList$Itr"), (3, .class_ 83), (0, u "java/util/AbstractList$ListItr"), (9, .class_ 94), (0, u "java/util/AbstractList$RandomAccessSubList"), (3, .class_ 99), (0, u "java/util/AbstractList$SubList"), (33, .class_ 134), (0, u "java/util/List"), (73, .class_ 209), (0, u "java/util/AbstractList$SubList$1"), (0, .class_ 211), (0, u "java/util/AbstractList$RandomAccessSpliterator")] 6

def k8c0 : Code := { maxStack := 2, maxLocals := 1, code := jdk_39_method_1_code, exceptionTable := #[], attributes := #[] }
def k8m0 : Method := { name := "<init>", desc := "()V", sig := { parameters := [], returnType := none }, accessFlags := 4, code := some k8c0 }
/-- java/util/AbstractList -/
def k8 : Class := { plain "java/util/AbstractList" (some 5) with
  accessFlags := 1057
  interfaces := #[7]
  cf := some (fileOf pool8 8 #[.nestMembers #[93, 98, 208, 210, 82, 77]] #[{ accessFlags := 4, nameIndex := 5, descriptorIndex := 6, attributes := #[] }] 1057 2 #[133] #[{ accessFlags := 132, nameIndex := 11, descriptorIndex := 12, attributes := #[] }])
  fields := #[{ name := "modCount", type := .int, accessFlags := 132, slot := 0, constantValue := 0 }]
  methods := #[k8m0]
  instanceTypes := #[.int]
  staticTypes := #[]
  resolved := Array.replicate 218 none
  statics := none }

def pool9 : Array CpInfo := pool [(1, .class_ 2), (0, u "java/util/RandomAccess"), (0, .class_ 4), (0, u "java/lang/Object")] 2

/-- java/util/RandomAccess -/
def k9 : Class := { plain "java/util/RandomAccess" (some 0) with
  accessFlags := 1537
  interfaces := #[]
  cf := some (fileOf pool9 1 #[] #[] 1537 3 #[] #[])
  fields := #[]
  methods := #[]
  instanceTypes := #[]
  staticTypes := #[]
  resolved := Array.replicate 7 none
  statics := none }

def pool10 : Array CpInfo := pool [(1, .class_ 2), (0, u "java/lang/Cloneable"), (0, .class_ 4), (0, u "java/lang/Object")] 2

/-- java/lang/Cloneable -/
def k10 : Class := { plain "java/lang/Cloneable" (some 0) with
  accessFlags := 1537
  interfaces := #[]
  cf := some (fileOf pool10 1 #[] #[] 1537 3 #[] #[])
  fields := #[]
  methods := #[]
  instanceTypes := #[]
  staticTypes := #[]
  resolved := Array.replicate 7 none
  statics := none }

def pool11 : Array CpInfo := pool [(1, .class_ 2), (0, u "java/io/Serializable"), (0, .class_ 4), (0, u "java/lang/Object")] 2

/-- java/io/Serializable -/
def k11 : Class := { plain "java/io/Serializable" (some 0) with
  accessFlags := 1537
  interfaces := #[]
  cf := some (fileOf pool11 1 #[] #[] 1537 3 #[] #[])
  fields := #[]
  methods := #[]
  instanceTypes := #[]
  staticTypes := #[]
  resolved := Array.replicate 7 none
  statics := none }

def pool12 : Array CpInfo := pool [(1, .methodref 2 3), (0, .class_ 4), (0, .nameAndType 5 6), (0, u "java/util/AbstractList"), (0, u "<init>"), (0, u "()V"), (0, .class_ 8), (0, u "java/lang/Object"), (0, .fieldref 10 11), (0, .class_ 12), (0, .nameAndType 13 14), (0, u "java/util/ArrayList"), (0, u "elementData"), (0, u "[Ljava/lang/Object;"), (2, u "EMPTY_ELEMENTDATA"), (21, .fieldref 10 40), (0, .nameAndType 41 14), (0, u "DEFAULTCAPACITY_EMPTY_ELEMENTDATA"), (5, u "()[Ljava/lang/Object;"), (0, .fieldref 10 49), (0, .nameAndType 50 51), (0, u "size"), (0, u "I"), (11, .fieldref 10 64), (0, .nameAndType 65 51), (0, u "modCount"), (3, .methodref 10 70), (0, .nameAndType 71 72), (0, u "grow"), (0, u "(I)[Ljava/lang/Object;"), (6, .methodref 80 81), (0, .class_ 82), (0, .nameAndType 83 84), (0, u "java/lang/Math"), (0, u "max"), (0, u "(II)I"), (11, u "(Ljava/lang/Object;)Z"), (32, .methodref 10 130), (0, .nameAndType 71 47), (0, .methodref 10 132), (0, .nameAndType 133 134), (0, u "add"), (0, u "(Ljava/lang/Object;[Ljava/lang/Object;I)V"), (13, .class_ 149), (0, u "java/util/List"), (36, u "()I"), (75, .class_ 263), (0, u "java/util/ArrayList$ListItr"), (3, .class_ 268), (0, u "java/util/ArrayList$Itr"), (7, .class_ 277), (0, u "java/util/ArrayList$SubList"), (12, .class_ 291), (0, u "java/util/ArrayList$ArrayListSpliterator"), (37, .class_ 330), (0, u "java/util/RandomAccess"), (0, .class_ 332), (0, u "java/lang/Cloneable"), (0, .class_ 334), (0, u "java/io/Serializable"), (0, u "serialVersionUID"), (0, u "J"), (3, u "DEFAULT_CAPACITY"), (159, .class_ 501), (0, u "java/util/ArrayList$SubList$2"), (0, .class_ 503), (0, u "java/util/ArrayList$SubList$1")] 5

def k12c0 : Code := { maxStack := 2, maxLocals := 1, code := jdk_38_method_2_code, exceptionTable := #[], attributes := #[] }
def k12m0 : Method := { name := "<init>", desc := "()V", sig := { parameters := [], returnType := none }, accessFlags := 1, code := some k12c0 }
def k12c1 : Code := { maxStack := 4, maxLocals := 4, code := jdk_38_method_6_code, exceptionTable := #[], attributes := #[] }
def k12m1 : Method := { name := "grow", desc := "(I)[Ljava/lang/Object;", sig := { parameters := [.int], returnType := some (.array (.object "java/lang/Object")) }, accessFlags := 2, code := some k12c1 }
def k12c2 : Code := { maxStack := 3, maxLocals := 1, code := jdk_38_method_7_code, exceptionTable := #[], attributes := #[] }
def k12m2 : Method := { name := "grow", desc := "()[Ljava/lang/Object;", sig := { parameters := [], returnType := some (.array (.object "java/lang/Object")) }, accessFlags := 2, code := some k12c2 }
def k12c3 : Code := { maxStack := 1, maxLocals := 1, code := jdk_38_method_8_code, exceptionTable := #[], attributes := #[] }
def k12m3 : Method := { name := "size", desc := "()I", sig := { parameters := [], returnType := some .int }, accessFlags := 1, code := some k12c3 }
def k12c4 : Code := { maxStack := 3, maxLocals := 4, code := jdk_38_method_24_code, exceptionTable := #[], attributes := #[] }
def k12m4 : Method := { name := "add", desc := "(Ljava/lang/Object;[Ljava/lang/Object;I)V", sig := { parameters := [(.object "java/lang/Object"), (.array (.object "java/lang/Object")), .int], returnType := none }, accessFlags := 2, code := some k12c4 }
def k12c5 : Code := { maxStack := 4, maxLocals := 2, code := jdk_38_method_25_code, exceptionTable := #[], attributes := #[] }
def k12m5 : Method := { name := "add", desc := "(Ljava/lang/Object;)Z", sig := { parameters := [(.object "java/lang/Object")], returnType := some .boolean }, accessFlags := 1, code := some k12c5 }
/-- java/util/ArrayList -/
def k12 : Class := { plain "java/util/ArrayList" (some 8) with
  accessFlags := 33
  interfaces := #[7, 9, 10, 11]
  cf := some (fileOf pool12 10 #[.nestMembers #[290, 276, 500, 502, 262, 267]] #[{ accessFlags := 1, nameIndex := 5, descriptorIndex := 6, attributes := #[] }, { accessFlags := 2, nameIndex := 71, descriptorIndex := 72, attributes := #[] }, { accessFlags := 2, nameIndex := 71, descriptorIndex := 47, attributes := #[] }, { accessFlags := 1, nameIndex := 50, descriptorIndex := 186, attributes := #[] }, { accessFlags := 2, nameIndex := 133, descriptorIndex := 134, attributes := #[] }, { accessFlags := 1, nameIndex := 133, descriptorIndex := 96, attributes := #[] }] 33 2 #[148, 329, 331, 333] #[{ accessFlags := 26, nameIndex := 335, descriptorIndex := 336, attributes := #[] }, { accessFlags := 26, nameIndex := 340, descriptorIndex := 51, attributes := #[] }, { accessFlags := 26, nameIndex := 17, descriptorIndex := 14, attributes := #[] }, { accessFlags := 26, nameIndex := 41, descriptorIndex := 14, attributes := #[] }, { accessFlags := 128, nameIndex := 13, descriptorIndex := 14, attributes := #[] }, { accessFlags := 2, nameIndex := 50, descriptorIndex := 51, attributes := #[] }])
  fields := #[{ name := "serialVersionUID", type := .long, accessFlags := 26, slot := 0, constantValue := 0 }, { name := "DEFAULT_CAPACITY", type := .int, accessFlags := 26, slot := 1, constantValue := 0 }, { name := "EMPTY_ELEMENTDATA", type := (.array (.object "java/lang/Object")), accessFlags := 26, slot := 2, constantValue := 0 }, { name := "DEFAULTCAPACITY_EMPTY_ELEMENTDATA", type := (.array (.object "java/lang/Object")), accessFlags := 26, slot := 3, constantValue := 0 }, { name := "elementData", type := (.array (.object "java/lang/Object")), accessFlags := 128, slot := 1, constantValue := 0 }, { name := "size", type := .int, accessFlags := 2, slot := 2, constantValue := 0 }]
  methods := #[k12m0, k12m1, k12m2, k12m3, k12m4, k12m5]
  instanceTypes := #[.int, (.array (.object "java/lang/Object")), .int]
  staticTypes := #[.long, .int, (.array (.object "java/lang/Object")), (.array (.object "java/lang/Object"))]
  resolved := Array.replicate 509 none
  statics := some 0 }

def pool13 : Array CpInfo := pool [(1, .class_ 2), (0, u "java/lang/Comparable"), (0, .class_ 4), (0, u "java/lang/Object")] 7

/-- java/lang/Comparable -/
def k13 : Class := { plain "java/lang/Comparable" (some 0) with
  accessFlags := 1537
  interfaces := #[]
  cf := some (fileOf pool13 1 #[] #[] 1537 3 #[] #[])
  fields := #[]
  methods := #[]
  instanceTypes := #[]
  staticTypes := #[]
  resolved := Array.replicate 12 none
  statics := none }

def pool14 : Array CpInfo := pool [(2, .class_ 4), (1, u "java/lang/CharSequence"), (42, .class_ 48), (0, u "java/lang/CharSequence$1CodePointIterator"), (10, .class_ 60), (0, u "java/lang/CharSequence$1CharIterator"), (5, .class_ 67), (0, u "java/lang/Object")] 63

/-- java/lang/CharSequence -/
def k14 : Class := { plain "java/lang/CharSequence" (some 0) with
  accessFlags := 1537
  interfaces := #[]
  cf := some (fileOf pool14 2 #[.nestMembers #[47, 59]] #[] 1537 66 #[] #[])
  fields := #[]
  methods := #[]
  instanceTypes := #[]
  staticTypes := #[]
  resolved := Array.replicate 131 none
  statics := none }

def pool15 : Array CpInfo := pool [(1, .class_ 2), (0, u "java/lang/constant/Constable"), (0, .class_ 4), (0, u "java/lang/Object")] 6

/-- java/lang/constant/Constable -/
def k15 : Class := { plain "java/lang/constant/Constable" (some 0) with
  accessFlags := 1537
  interfaces := #[]
  cf := some (fileOf pool15 1 #[] #[] 1537 3 #[] #[])
  fields := #[]
  methods := #[]
  instanceTypes := #[]
  staticTypes := #[]
  resolved := Array.replicate 11 none
  statics := none }

def pool16 : Array CpInfo := pool [(1, .class_ 2), (0, u "java/lang/constant/ConstantDesc"), (0, .class_ 4), (0, u "java/lang/Object")] 32

/-- java/lang/constant/ConstantDesc -/
def k16 : Class := { plain "java/lang/constant/ConstantDesc" (some 0) with
  accessFlags := 1537
  interfaces := #[]
  cf := some (fileOf pool16 1 #[] #[] 1537 3 #[] #[])
  fields := #[]
  methods := #[]
  instanceTypes := #[]
  staticTypes := #[]
  resolved := Array.replicate 37 none
  statics := none }

def pool17 : Array CpInfo := pool [(1, .methodref 2 3), (0, .class_ 4), (0, .nameAndType 5 6), (0, u "java/lang/Object"), (0, u "<init>"), (0, u "()V"), (2, .fieldref 10 11), (0, .class_ 12), (0, .nameAndType 13 14), (0, u "java/lang/String"), (0, u "value"), (0, u "[B"), (0, .fieldref 10 16), (0, .nameAndType 17 18), (0, u "coder"), (0, u "B"), (2, u "hash"), (0, u "I"), (2, u "hashIsZero"), (0, u "Z"), (11, .fieldref 10 39), (0, .nameAndType 40 26), (0, u "COMPACT_STRINGS"), (12, u "toBytes"), (53, .class_ 109), (1, u "java/lang/StringLatin1"), (99, .methodref 10 210), (0, .nameAndType 5 211), (0, u "([BB)V"), (157, u "(C)Z"), (205, .class_ 576), (0, u "java/lang/CharSequence"), (22, u "CASE_INSENSITIVE_ORDER"), (0, u "Ljava/util/Comparator;"), (181, u "valueOf"), (0, u "(C)Ljava/lang/String;"), (231, .methodref 107 1016), (0, .nameAndType 1017 369), (0, u "canEncode"), (0, .methodref 107 1019), (0, .nameAndType 53 1020), (0, u "(C)[B"), (80, u "serialPersistentFields"), (0, u "[Ljava/io/ObjectStreamField;"), (0, .class_ 1104), (0, u "java/lang/String$CaseInsensitiveComparator"), (1, .class_ 1107), (0, u "java/io/Serializable"), (0, .class_ 1109), (0, u "java/lang/Comparable"), (0, .class_ 1111), (0, u "java/lang/constant/Constable"), (0, .class_ 1113), (0, u "java/lang/constant/ConstantDesc"), (2, u "serialVersionUID"), (0, u "J"), (3, u "REPL"), (0, u "C"), (2, u "LATIN1"), (1, u "UTF16")] 323

def k17m0 : Method := { name := "<init>", desc := "()V", sig := { parameters := [], returnType := none }, accessFlags := 1, code := none }
def k17c1 : Code := { maxStack := 4, maxLocals := 1, code := jdk_42_method_139_code, exceptionTable := #[], attributes := #[] }
def k17m1 : Method := { name := "valueOf", desc := "(C)Ljava/lang/String;", sig := { parameters := [.char], returnType := some (.object "java/lang/String") }, accessFlags := 9, code := some k17c1 }
def k17c2 : Code := { maxStack := 2, maxLocals := 3, code := jdk_42_method_151_code, exceptionTable := #[], attributes := #[] }
def k17m2 : Method := { name := "<init>", desc := "([BB)V", sig := { parameters := [(.array .byte), .byte], returnType := none }, accessFlags := 0, code := some k17c2 }
/-- java/lang/String -/
def k17 : Class := { plain "java/lang/String" (some 0) with
  accessFlags := 49
  interfaces := #[11, 13, 14, 15, 16]
  cf := some (fileOf pool17 10 #[.nestMembers #[1103]] #[{ accessFlags := 1, nameIndex := 5, descriptorIndex := 6, attributes := #[] }, { accessFlags := 9, nameIndex := 782, descriptorIndex := 783, attributes := #[] }, { accessFlags := 0, nameIndex := 5, descriptorIndex := 211, attributes := #[] }] 49 2 #[1106, 1108, 575, 1110, 1112] #[{ accessFlags := 18, nameIndex := 13, descriptorIndex := 14, attributes := #[] }, { accessFlags := 18, nameIndex := 17, descriptorIndex := 18, attributes := #[] }, { accessFlags := 2, nameIndex := 21, descriptorIndex := 22, attributes := #[] }, { accessFlags := 2, nameIndex := 25, descriptorIndex := 26, attributes := #[] }, { accessFlags := 26, nameIndex := 1116, descriptorIndex := 1117, attributes := #[] }, { accessFlags := 24, nameIndex := 40, descriptorIndex := 26, attributes := #[] }, { accessFlags := 26, nameIndex := 1101, descriptorIndex := 1102, attributes := #[] }, { accessFlags := 26, nameIndex := 1121, descriptorIndex := 1122, attributes := #[] }, { accessFlags := 25, nameIndex := 599, descriptorIndex := 600, attributes := #[] }, { accessFlags := 24, nameIndex := 1125, descriptorIndex := 18, attributes := #[] }, { accessFlags := 24, nameIndex := 1127, descriptorIndex := 18, attributes := #[] }])
  fields := #[{ name := "value", type := (.array .byte), accessFlags := 18, slot := 0, constantValue := 0 }, { name := "coder", type := .byte, accessFlags := 18, slot := 1, constantValue := 0 }, { name := "hash", type := .int, accessFlags := 2, slot := 2, constantValue := 0 }, { name := "hashIsZero", type := .boolean, accessFlags := 2, slot := 3, constantValue := 0 }, { name := "serialVersionUID", type := .long, accessFlags := 26, slot := 0, constantValue := 0 }, { name := "COMPACT_STRINGS", type := .boolean, accessFlags := 24, slot := 1, constantValue := 0 }, { name := "serialPersistentFields", type := (.array (.object "java/io/ObjectStreamField")), accessFlags := 26, slot := 2, constantValue := 0 }, { name := "REPL", type := .char, accessFlags := 26, slot := 3, constantValue := 0 }, { name := "CASE_INSENSITIVE_ORDER", type := (.object "java/util/Comparator"), accessFlags := 25, slot := 4, constantValue := 0 }, { name := "LATIN1", type := .byte, accessFlags := 24, slot := 5, constantValue := 0 }, { name := "UTF16", type := .byte, accessFlags := 24, slot := 6, constantValue := 0 }]
  methods := #[k17m0, k17m1, k17m2]
  instanceTypes := #[(.array .byte), .byte, .int, .boolean]
  staticTypes := #[.long, .boolean, (.array (.object "java/io/ObjectStreamField")), .char, (.object "java/util/Comparator"), .byte, .byte]
  resolved := Array.replicate 1451 none
  statics := some 1 }

def pool18 : Array CpInfo := pool [(4, .class_ 6), (1, u "java/lang/Object"), (0, u "<init>"), (0, u "()V"), (5, .class_ 16), (1, u "java/lang/StringLatin1"), (73, u "canEncode"), (14, u "(C)Z"), (15, u "$assertionsDisabled"), (0, u "Z"), (98, .class_ 223), (1, u "java/lang/StringLatin1$LinesSpliterator"), (156, u "toBytes"), (1, u "(C)[B"), (7, .class_ 391), (0, u "java/lang/StringLatin1$CharsSpliterator")] 3

def k18m0 : Method := { name := "<init>", desc := "()V", sig := { parameters := [], returnType := none }, accessFlags := 0, code := none }
def k18c1 : Code := { maxStack := 2, maxLocals := 1, code := jdk_43_method_3_code, exceptionTable := #[], attributes := #[] }
def k18m1 : Method := { name := "canEncode", desc := "(C)Z", sig := { parameters := [.char], returnType := some .boolean }, accessFlags := 9, code := some k18c1 }
def k18c2 : Code := { maxStack := 4, maxLocals := 1, code := jdk_43_method_46_code, exceptionTable := #[], attributes := #[] }
def k18m2 : Method := { name := "toBytes", desc := "(C)[B", sig := { parameters := [.char], returnType := some (.array .byte) }, accessFlags := 9, code := some k18c2 }
/-- java/lang/StringLatin1 -/
def k18 : Class := { plain "java/lang/StringLatin1" (some 0) with
  accessFlags := 48
  interfaces := #[]
  cf := some (fileOf pool18 14 #[.nestMembers #[390, 221]] #[{ accessFlags := 0, nameIndex := 7, descriptorIndex := 8, attributes := #[] }, { accessFlags := 9, nameIndex := 90, descriptorIndex := 105, attributes := #[] }, { accessFlags := 9, nameIndex := 380, descriptorIndex := 382, attributes := #[] }] 48 4 #[] #[{ accessFlags := 4120, nameIndex := 121, descriptorIndex := 122, attributes := #[] }])
  fields := #[{ name := "$assertionsDisabled", type := .boolean, accessFlags := 4120, slot := 0, constantValue := 0 }]
  methods := #[k18m0, k18m1, k18m2]
  instanceTypes := #[]
  staticTypes := #[.boolean]
  resolved := Array.replicate 395 none
  statics := none }

def pool19 : Array CpInfo := pool [(1, .methodref 2 3), (0, .class_ 4), (0, .nameAndType 5 6), (0, u "java/lang/Object"), (0, u "<init>"), (0, u "()V"), (0, .class_ 8), (0, u "java/lang/Record")] 13

def k19c0 : Code := { maxStack := 1, maxLocals := 1, code := jdk_30_method_1_code, exceptionTable := #[], attributes := #[] }
def k19m0 : Method := { name := "<init>", desc := "()V", sig := { parameters := [], returnType := none }, accessFlags := 4, code := some k19c0 }
/-- java/lang/Record -/
def k19 : Class := { plain "java/lang/Record" (some 0) with
  accessFlags := 1057
  interfaces := #[]
  cf := some (fileOf pool19 7 #[] #[{ accessFlags := 4, nameIndex := 5, descriptorIndex := 6, attributes := #[] }] 1057 2 #[] #[])
  fields := #[]
  methods := #[k19m0]
  instanceTypes := #[]
  staticTypes := #[]
  resolved := Array.replicate 22 none
  statics := none }

def pool20 : Array CpInfo := pool [(1, .methodref 2 3), (0, .class_ 4), (0, .nameAndType 5 6), (0, u "java/lang/Record"), (0, u "<init>"), (0, u "()V"), (0, .fieldref 8 9), (0, .class_ 10), (0, .nameAndType 11 12), (0, u "com/example/keep_count/keepcount/api/BatchResult$Rejection"), (0, u "line"), (0, u "J"), (0, .fieldref 8 14), (0, .nameAndType 15 16), (0, u "error"), (0, u "Ljava/lang/String;"), (12, u "(JLjava/lang/String;)V"), (10, .class_ 41), (0, u "com/example/keep_count/keepcount/api/BatchResult")] 20

def k20c0 : Code := { maxStack := 3, maxLocals := 4, code := prog_12_method_1_code, exceptionTable := #[], attributes := #[] }
def k20m0 : Method := { name := "<init>", desc := "(JLjava/lang/String;)V", sig := { parameters := [.long, (.object "java/lang/String")], returnType := none }, accessFlags := 0, code := some k20c0 }
/-- com/example/keep_count/keepcount/api/BatchResult$Rejection -/
def k20 : Class := { plain "com/example/keep_count/keepcount/api/BatchResult$Rejection" (some 19) with
  accessFlags := 48
  interfaces := #[]
  cf := some (fileOf pool20 8 #[.nestHost 40] #[{ accessFlags := 0, nameIndex := 5, descriptorIndex := 29, attributes := #[] }] 48 2 #[] #[{ accessFlags := 18, nameIndex := 11, descriptorIndex := 12, attributes := #[] }, { accessFlags := 18, nameIndex := 15, descriptorIndex := 16, attributes := #[] }])
  fields := #[{ name := "line", type := .long, accessFlags := 18, slot := 0, constantValue := 0 }, { name := "error", type := (.object "java/lang/String"), accessFlags := 18, slot := 1, constantValue := 0 }]
  methods := #[k20m0]
  instanceTypes := #[.long, (.object "java/lang/String")]
  staticTypes := #[]
  resolved := Array.replicate 62 none
  statics := none }

def pool21 : Array CpInfo := pool [(1, .class_ 2), (0, u "java/lang/Math"), (1, .class_ 6), (1, u "java/lang/Object"), (0, u "<init>"), (0, u "()V"), (89, .class_ 100), (1, u "java/lang/Math$RandomNumberGeneratorHolder"), (71, u "negativeZeroFloatBits"), (0, u "J"), (2, u "negativeZeroDoubleBits"), (21, u "max"), (46, u "$assertionsDisabled"), (0, u "Z"), (88, u "(II)I"), (2, u "twoToTheDoubleScaleDown"), (0, u "D"), (4, u "twoToTheDoubleScaleUp"), (9, u "E"), (3, u "PI"), (2, u "TAU"), (2, u "DEGREES_TO_RADIANS"), (0, u "RADIANS_TO_DEGREES")] 94

def k21m0 : Method := { name := "<init>", desc := "()V", sig := { parameters := [], returnType := none }, accessFlags := 2, code := none }
def k21c1 : Code := { maxStack := 2, maxLocals := 2, code := jdk_29_method_65_code, exceptionTable := #[], attributes := #[] }
def k21m1 : Method := { name := "max", desc := "(II)I", sig := { parameters := [.int, .int], returnType := some .int }, accessFlags := 9, code := some k21c1 }
/-- java/lang/Math -/
def k21 : Class := { plain "java/lang/Math" (some 0) with
  accessFlags := 49
  interfaces := #[]
  cf := some (fileOf pool21 1 #[.nestMembers #[98]] #[{ accessFlags := 2, nameIndex := 7, descriptorIndex := 8, attributes := #[] }, { accessFlags := 9, nameIndex := 198, descriptorIndex := 335, attributes := #[] }] 49 4 #[] #[{ accessFlags := 25, nameIndex := 354, descriptorIndex := 339, attributes := #[] }, { accessFlags := 25, nameIndex := 358, descriptorIndex := 339, attributes := #[] }, { accessFlags := 25, nameIndex := 361, descriptorIndex := 339, attributes := #[] }, { accessFlags := 26, nameIndex := 364, descriptorIndex := 339, attributes := #[] }, { accessFlags := 26, nameIndex := 365, descriptorIndex := 339, attributes := #[] }, { accessFlags := 26, nameIndex := 172, descriptorIndex := 173, attributes := #[] }, { accessFlags := 26, nameIndex := 176, descriptorIndex := 173, attributes := #[] }, { accessFlags := 8, nameIndex := 344, descriptorIndex := 339, attributes := #[] }, { accessFlags := 8, nameIndex := 338, descriptorIndex := 339, attributes := #[] }, { accessFlags := 4120, nameIndex := 245, descriptorIndex := 246, attributes := #[] }])
  fields := #[{ name := "E", type := .double, accessFlags := 25, slot := 0, constantValue := 0 }, { name := "PI", type := .double, accessFlags := 25, slot := 1, constantValue := 0 }, { name := "TAU", type := .double, accessFlags := 25, slot := 2, constantValue := 0 }, { name := "DEGREES_TO_RADIANS", type := .double, accessFlags := 26, slot := 3, constantValue := 0 }, { name := "RADIANS_TO_DEGREES", type := .double, accessFlags := 26, slot := 4, constantValue := 0 }, { name := "negativeZeroFloatBits", type := .long, accessFlags := 26, slot := 5, constantValue := 0 }, { name := "negativeZeroDoubleBits", type := .long, accessFlags := 26, slot := 6, constantValue := 0 }, { name := "twoToTheDoubleScaleUp", type := .double, accessFlags := 8, slot := 7, constantValue := 0 }, { name := "twoToTheDoubleScaleDown", type := .double, accessFlags := 8, slot := 8, constantValue := 0 }, { name := "$assertionsDisabled", type := .boolean, accessFlags := 4120, slot := 9, constantValue := 0 }]
  methods := #[k21m0, k21m1]
  instanceTypes := #[]
  staticTypes := #[.double, .double, .double, .double, .double, .long, .long, .double, .double, .boolean]
  resolved := Array.replicate 460 none
  statics := none }

def pool22 : Array CpInfo := pool [(2, .class_ 4), (1, u "java/lang/Object"), (0, u "<init>"), (0, u "()V"), (17, .class_ 26), (1, u "jdk/internal/util/Preconditions"), (28, .class_ 56), (0, u "jdk/internal/util/Preconditions$4"), (57, .class_ 115), (0, u "jdk/internal/util/Preconditions$1"), (7, u "SIOOBE_FORMATTER"), (0, u "Ljava/util/function/BiFunction;"), (0, .class_ 126), (0, u "jdk/internal/util/Preconditions$2"), (3, u "AIOOBE_FORMATTER"), (0, .class_ 132), (0, u "jdk/internal/util/Preconditions$3"), (3, u "IOOBE_FORMATTER")] 57

def k22m0 : Method := { name := "<init>", desc := "()V", sig := { parameters := [], returnType := none }, accessFlags := 1, code := none }
/-- jdk/internal/util/Preconditions -/
def k22 : Class := { plain "jdk/internal/util/Preconditions" (some 0) with
  accessFlags := 33
  interfaces := #[]
  cf := some (fileOf pool22 24 #[.nestMembers #[55, 131, 125, 114]] #[{ accessFlags := 1, nameIndex := 5, descriptorIndex := 6, attributes := #[] }] 33 2 #[] #[{ accessFlags := 25, nameIndex := 123, descriptorIndex := 124, attributes := #[] }, { accessFlags := 25, nameIndex := 130, descriptorIndex := 124, attributes := #[] }, { accessFlags := 25, nameIndex := 136, descriptorIndex := 124, attributes := #[] }])
  fields := #[{ name := "SIOOBE_FORMATTER", type := (.object "java/util/function/BiFunction"), accessFlags := 25, slot := 0, constantValue := 0 }, { name := "AIOOBE_FORMATTER", type := (.object "java/util/function/BiFunction"), accessFlags := 25, slot := 1, constantValue := 0 }, { name := "IOOBE_FORMATTER", type := (.object "java/util/function/BiFunction"), accessFlags := 25, slot := 2, constantValue := 0 }]
  methods := #[k22m0]
  instanceTypes := #[]
  staticTypes := #[(.object "java/util/function/BiFunction"), (.object "java/util/function/BiFunction"), (.object "java/util/function/BiFunction")]
  resolved := Array.replicate 194 none
  statics := some 2 }

def pool23 : Array CpInfo := pool [(9, u "<init>"), (6, .class_ 18), (1, u "java/lang/Object"), (0, u "()V"), (1, .class_ 23), (1, u "jdk/internal/util/ArraysSupport"), (0, u "LOG2_ARRAY_LONG_INDEX_SCALE"), (0, u "I"), (2, u "U"), (0, u "Ljdk/internal/misc/Unsafe;"), (8, u "BIG_ENDIAN"), (0, u "Z"), (8, u "LOG2_BYTE_BIT_SIZE"), (4, u "LOG2_ARRAY_INT_INDEX_SCALE"), (54, u "JLA"), (0, u "Ljdk/internal/access/JavaLangAccess;"), (11, u "LOG2_ARRAY_BOOLEAN_INDEX_SCALE"), (9, u "LOG2_ARRAY_BYTE_INDEX_SCALE"), (5, u "LOG2_ARRAY_CHAR_INDEX_SCALE"), (5, u "LOG2_ARRAY_SHORT_INDEX_SCALE"), (18, u "LOG2_ARRAY_FLOAT_INDEX_SCALE"), (24, u "LOG2_ARRAY_DOUBLE_INDEX_SCALE"), (89, u "T_BOOLEAN"), (2, u "T_CHAR"), (1, u "T_FLOAT"), (1, u "T_DOUBLE"), (1, u "T_BYTE"), (1, u "T_SHORT"), (1, u "T_INT"), (1, u "T_LONG"), (1, u "SOFT_MAX_ARRAY_LENGTH")] 83

def k23m0 : Method := { name := "<init>", desc := "()V", sig := { parameters := [], returnType := none }, accessFlags := 2, code := none }
/-- jdk/internal/util/ArraysSupport -/
def k23 : Class := { plain "jdk/internal/util/ArraysSupport" (some 0) with
  accessFlags := 33
  interfaces := #[]
  cf := some (fileOf pool23 21 #[] #[{ accessFlags := 2, nameIndex := 9, descriptorIndex := 19, attributes := #[] }] 33 16 #[] #[{ accessFlags := 24, nameIndex := 28, descriptorIndex := 29, attributes := #[] }, { accessFlags := 26, nameIndex := 38, descriptorIndex := 39, attributes := #[] }, { accessFlags := 25, nameIndex := 121, descriptorIndex := 25, attributes := #[] }, { accessFlags := 25, nameIndex := 131, descriptorIndex := 25, attributes := #[] }, { accessFlags := 25, nameIndex := 137, descriptorIndex := 25, attributes := #[] }, { accessFlags := 25, nameIndex := 143, descriptorIndex := 25, attributes := #[] }, { accessFlags := 25, nameIndex := 53, descriptorIndex := 25, attributes := #[] }, { accessFlags := 25, nameIndex := 24, descriptorIndex := 25, attributes := #[] }, { accessFlags := 25, nameIndex := 162, descriptorIndex := 25, attributes := #[] }, { accessFlags := 25, nameIndex := 187, descriptorIndex := 25, attributes := #[] }, { accessFlags := 26, nameIndex := 48, descriptorIndex := 25, attributes := #[] }, { accessFlags := 25, nameIndex := 277, descriptorIndex := 25, attributes := #[] }, { accessFlags := 25, nameIndex := 280, descriptorIndex := 25, attributes := #[] }, { accessFlags := 25, nameIndex := 282, descriptorIndex := 25, attributes := #[] }, { accessFlags := 25, nameIndex := 284, descriptorIndex := 25, attributes := #[] }, { accessFlags := 25, nameIndex := 286, descriptorIndex := 25, attributes := #[] }, { accessFlags := 25, nameIndex := 288, descriptorIndex := 25, attributes := #[] }, { accessFlags := 25, nameIndex := 290, descriptorIndex := 25, attributes := #[] }, { accessFlags := 25, nameIndex := 292, descriptorIndex := 25, attributes := #[] }, { accessFlags := 26, nameIndex := 108, descriptorIndex := 109, attributes := #[] }, { accessFlags := 25, nameIndex := 294, descriptorIndex := 25, attributes := #[] }])
  fields := #[{ name := "U", type := (.object "jdk/internal/misc/Unsafe"), accessFlags := 24, slot := 0, constantValue := 0 }, { name := "BIG_ENDIAN", type := .boolean, accessFlags := 26, slot := 1, constantValue := 0 }, { name := "LOG2_ARRAY_BOOLEAN_INDEX_SCALE", type := .int, accessFlags := 25, slot := 2, constantValue := 0 }, { name := "LOG2_ARRAY_BYTE_INDEX_SCALE", type := .int, accessFlags := 25, slot := 3, constantValue := 0 }, { name := "LOG2_ARRAY_CHAR_INDEX_SCALE", type := .int, accessFlags := 25, slot := 4, constantValue := 0 }, { name := "LOG2_ARRAY_SHORT_INDEX_SCALE", type := .int, accessFlags := 25, slot := 5, constantValue := 0 }, { name := "LOG2_ARRAY_INT_INDEX_SCALE", type := .int, accessFlags := 25, slot := 6, constantValue := 0 }, { name := "LOG2_ARRAY_LONG_INDEX_SCALE", type := .int, accessFlags := 25, slot := 7, constantValue := 0 }, { name := "LOG2_ARRAY_FLOAT_INDEX_SCALE", type := .int, accessFlags := 25, slot := 8, constantValue := 0 }, { name := "LOG2_ARRAY_DOUBLE_INDEX_SCALE", type := .int, accessFlags := 25, slot := 9, constantValue := 0 }, { name := "LOG2_BYTE_BIT_SIZE", type := .int, accessFlags := 26, slot := 10, constantValue := 0 }, { name := "T_BOOLEAN", type := .int, accessFlags := 25, slot := 11, constantValue := 0 }, { name := "T_CHAR", type := .int, accessFlags := 25, slot := 12, constantValue := 0 }, { name := "T_FLOAT", type := .int, accessFlags := 25, slot := 13, constantValue := 0 }, { name := "T_DOUBLE", type := .int, accessFlags := 25, slot := 14, constantValue := 0 }, { name := "T_BYTE", type := .int, accessFlags := 25, slot := 15, constantValue := 0 }, { name := "T_SHORT", type := .int, accessFlags := 25, slot := 16, constantValue := 0 }, { name := "T_INT", type := .int, accessFlags := 25, slot := 17, constantValue := 0 }, { name := "T_LONG", type := .int, accessFlags := 25, slot := 18, constantValue := 0 }, { name := "JLA", type := (.object "jdk/internal/access/JavaLangAccess"), accessFlags := 26, slot := 19, constantValue := 0 }, { name := "SOFT_MAX_ARRAY_LENGTH", type := .int, accessFlags := 25, slot := 20, constantValue := 0 }]
  methods := #[k23m0]
  instanceTypes := #[]
  staticTypes := #[(.object "jdk/internal/misc/Unsafe"), .boolean, .int, .int, .int, .int, .int, .int, .int, .int, .int, .int, .int, .int, .int, .int, .int, .int, .int, (.object "jdk/internal/access/JavaLangAccess"), .int]
  resolved := Array.replicate 378 none
  statics := none }

/-- the primitive byte -/
def k24 : Class := { plain "byte" none with kind := .primitive 'B', accessFlags := 0x411 }
/-- [B -/
def k25 : Class := { plain "[B" (some 0) with kind := .array 24 .byte, interfaces := #[10, 11], accessFlags := 1041 }

/-- the primitive int -/
def k26 : Class := { plain "int" none with kind := .primitive 'I', accessFlags := 0x411 }
/-- [I -/
def k27 : Class := { plain "[I" (some 0) with kind := .array 26 .int, interfaces := #[10, 11], accessFlags := 1041 }

/-- [Ljava/lang/Object; -/
def k28 : Class := { plain "[Ljava/lang/Object;" (some 0) with kind := .array 0 (.object "java/lang/Object"), interfaces := #[10, 11], accessFlags := 1041 }

def heap : Heap := #[{ cls := 12, slots := #[.long 0, .int 0, .ref 3, .ref 4], vm := .statics 12 },
  { cls := 17, slots := #[.long 0, .int 1, .null, .int 0, .null, .int 0, .int 0], vm := .statics 17 },
  { cls := 22, slots := #[.null, .null, .null], vm := .statics 22 },
  { cls := 28, slots := #[], vm := .none },
  { cls := 28, slots := #[], vm := .none }]
def classes : Array Class := #[k0, k1, k2, k3, k4, k5, k6, k7, k8, k9, k10, k11, k12, k13, k14, k15, k16, k17, k18, k19, k20, k21, k22, k23, k24, k25, k26, k27, k28]
def interned : List (Array UInt16 × Addr) := []
def slotsUsed : Nat := 14
def theMethod : MethodId := ⟨1, 1⟩
def args0 : Array Value := #[.int 5, .long 300]
def aboutOver (below : List Frame) : State where
  vm := { classes := classes, interned := interned.toArray }
  heap := heap
  slotsUsed := slotsUsed
  threads := #[{ frames := .invoking theMethod args0 :: below }]
def below0 : List Frame := [.native { method := ⟨0, 0⟩, args := #[] }]
def about1 : State := aboutOver below0
def p0 : Program := .bare "" "" ""
def e0 : Env := launch0.env 0 0 0
theorem w_frames : about1.frames = Frame.invoking theMethod args0 :: below0 := rfl
set_option maxRecDepth 65536 in
theorem w_args : argsFit about1.vm theMethod args0 = true := by decide +kernel
set_option maxRecDepth 65536 in
theorem w_heap : heapFits about1 = true := by decide +kernel
set_option maxRecDepth 65536 in
theorem w_runnable : about1.curStatus? = some .runnable := by decide +kernel
set_option maxRecDepth 65536 in
theorem w_alone : about1.alone = true := by decide +kernel
set_option maxRecDepth 65536 in
theorem w_named : about1.methodNamed? x = some theMethod := by decide +kernel
set_option maxRecDepth 65536 in
theorem w_hears : about1.hears theMethod below0 = true := by decide +kernel
set_option maxRecDepth 65536 in
theorem w_ripe : about1.ripe theMethod args0 below0 = true := by decide +kernel
theorem w_running : about1.status = .running := rfl
set_option maxRecDepth 65536 in
theorem w_room : about1.hasRoom e0.platform room_1 = true :=
  launch0.hasRoom_least _ room_1 (by decide +kernel) (by decide +kernel) (by decide +kernel) (by decide +kernel) (by decide +kernel) (by decide +kernel)
theorem allAtoms_all (ts : List Jvm.Cond) (a : Array Jvm.Value) (st : Jvm.State) : (allAtoms ts).before a st = ts.all (fun c => c.before a st) := by
  induction ts with
  | nil => rfl
  | cons c t ih =>
    show (Jvm.Cond.and c (allAtoms t)).before a st = _
    rw [Jvm.Cond.before_and, ih, List.all_cons]
def words1 : List Jvm.Cond := Jvm.Cond.code x code maxLocals ret :: tables_1
/-- a 'code' word, met by the world's own term for the bytes: nothing is compared byte by byte -/
theorem code_word {y : MethodName} {bytes : ByteArray} {mx : Nat} {rt : Option FieldType} {a : Array Value} {s : State} {m : MethodId} {meth : Method} {c : Code} (h1 : s.methodNamed? y = some m) (h2 : s.vm.method? m = some meth) (h3 : meth.code = some c) (h4 : c.code = bytes)
    (h5 : (c.maxLocals == mx && c.exceptionTable.isEmpty && decide (c.maxStack ≤ mostOperands) && decide (meth.sig.returnType = rt) && !meth.locks && decide (parseMethodDescriptor y.desc = some meth.sig)) = true) : (Jvm.Cond.code y bytes mx rt).before a s = true := by
  simp only [Bool.and_eq_true, beq_iff_eq, Bool.not_eq_true', decide_eq_true_eq] at h5
  obtain ⟨⟨⟨⟨⟨g1, g2⟩, g3⟩, g4⟩, g5⟩, g6⟩ := h5
  simp [Cond.before, Cond.holds, Cond.value, h1, h2, h3, h4, g1, g2, g3, g4, g5, g6]
def isCode : Jvm.Cond → Bool
  | .code _ _ _ _ => true
  | _ => false
theorem all_split {L : List Jvm.Cond} {P : Jvm.Cond → Bool} (h1 : L.all (fun c => isCode c || P c) = true) (h2 : ∀ c ∈ L.filter isCode, P c = true) : L.all P = true := by
  refine List.all_eq_true.mpr fun c hc => ?_
  have h := List.all_eq_true.mp h1 c hc
  rcases Bool.eq_false_or_eq_true (isCode c) with hi | hi
  · exact h2 c (List.mem_filter.mpr ⟨hc, hi⟩)
  · simpa [hi] using h
set_option maxRecDepth 65536 in
theorem w_c0 : (Jvm.Cond.code x code maxLocals ret).before args0 about1 = true := code_word (m := ⟨1, 1⟩) (meth := k1m1) (c := k1c1) (by decide +kernel) rfl rfl rfl (by decide +kernel)
set_option maxRecDepth 65536 in
theorem w_c1 : (Jvm.Cond.code ({ cls := "com/example/keep_count/keepcount/api/BatchResult", name := "<init>", desc := "()V" } : Jvm.MethodName) prog_11_method_1_code (1 : Nat) (Option.none : Option Jvm.ClassFile.FieldType)).before args0 about1 = true := code_word (m := ⟨2, 0⟩) (meth := k2m0) (c := k2c0) (by decide +kernel) rfl rfl rfl (by decide +kernel)
set_option maxRecDepth 65536 in
theorem w_c2 : (Jvm.Cond.code ({ cls := "java/lang/Object", name := "<init>", desc := "()V" } : Jvm.MethodName) object_method_1_code (1 : Nat) (Option.none : Option Jvm.ClassFile.FieldType)).before args0 about1 = true := code_word (m := ⟨0, 0⟩) (meth := k0m0) (c := k0c0) (by decide +kernel) rfl rfl rfl (by decide +kernel)
set_option maxRecDepth 65536 in
theorem w_c3 : (Jvm.Cond.code ({ cls := "java/util/ArrayList", name := "<init>", desc := "()V" } : Jvm.MethodName) jdk_38_method_2_code (1 : Nat) (Option.none : Option Jvm.ClassFile.FieldType)).before args0 about1 = true := code_word (m := ⟨12, 0⟩) (meth := k12m0) (c := k12c0) (by decide +kernel) rfl rfl rfl (by decide +kernel)
set_option maxRecDepth 65536 in
theorem w_c4 : (Jvm.Cond.code ({ cls := "java/util/AbstractList", name := "<init>", desc := "()V" } : Jvm.MethodName) jdk_39_method_1_code (1 : Nat) (Option.none : Option Jvm.ClassFile.FieldType)).before args0 about1 = true := code_word (m := ⟨8, 0⟩) (meth := k8m0) (c := k8c0) (by decide +kernel) rfl rfl rfl (by decide +kernel)
set_option maxRecDepth 65536 in
theorem w_c5 : (Jvm.Cond.code ({ cls := "java/util/AbstractCollection", name := "<init>", desc := "()V" } : Jvm.MethodName) jdk_22_method_1_code (1 : Nat) (Option.none : Option Jvm.ClassFile.FieldType)).before args0 about1 = true := code_word (m := ⟨5, 0⟩) (meth := k5m0) (c := k5c0) (by decide +kernel) rfl rfl rfl (by decide +kernel)
set_option maxRecDepth 65536 in
theorem w_c6 : (Jvm.Cond.code ({ cls := "com/example/keep_count/keepcount/api/BatchResult", name := "checked", desc := "(Z)V" } : Jvm.MethodName) prog_11_method_2_code (2 : Nat) (Option.none : Option Jvm.ClassFile.FieldType)).before args0 about1 = true := code_word (m := ⟨2, 1⟩) (meth := k2m1) (c := k2c1) (by decide +kernel) rfl rfl rfl (by decide +kernel)
set_option maxRecDepth 65536 in
theorem w_c7 : (Jvm.Cond.code ({ cls := "com/example/keep_count/keepcount/api/BatchResult", name := "allowed", desc := "()J" } : Jvm.MethodName) prog_11_method_5_code (1 : Nat) (Option.some Jvm.ClassFile.FieldType.long)).before args0 about1 = true := code_word (m := ⟨2, 4⟩) (meth := k2m4) (c := k2c4) (by decide +kernel) rfl rfl rfl (by decide +kernel)
set_option maxRecDepth 65536 in
theorem w_c8 : (Jvm.Cond.code ({ cls := "com/example/keep_count/keepcount/api/BatchResult", name := "denied", desc := "()J" } : Jvm.MethodName) prog_11_method_6_code (1 : Nat) (Option.some Jvm.ClassFile.FieldType.long)).before args0 about1 = true := code_word (m := ⟨2, 5⟩) (meth := k2m5) (c := k2c5) (by decide +kernel) rfl rfl rfl (by decide +kernel)
set_option maxRecDepth 65536 in
theorem w_c9 : (Jvm.Cond.code ({ cls := "com/example/keep_count/keepcount/api/BatchResult", name := "rejected", desc := "()J" } : Jvm.MethodName) prog_11_method_7_code (1 : Nat) (Option.some Jvm.ClassFile.FieldType.long)).before args0 about1 = true := code_word (m := ⟨2, 6⟩) (meth := k2m6) (c := k2c6) (by decide +kernel) rfl rfl rfl (by decide +kernel)
set_option maxRecDepth 65536 in
theorem w_c10 : (Jvm.Cond.code ({ cls := "com/example/keep_count/keepcount/api/BatchResult", name := "received", desc := "()J" } : Jvm.MethodName) prog_11_method_4_code (1 : Nat) (Option.some Jvm.ClassFile.FieldType.long)).before args0 about1 = true := code_word (m := ⟨2, 3⟩) (meth := k2m3) (c := k2c3) (by decide +kernel) rfl rfl rfl (by decide +kernel)
set_option maxRecDepth 65536 in
theorem w_c11 : (Jvm.Cond.code ({ cls := "java/lang/String", name := "valueOf", desc := "(C)Ljava/lang/String;" } : Jvm.MethodName) jdk_42_method_139_code (1 : Nat) (Option.some (Jvm.ClassFile.FieldType.object "java/lang/String"))).before args0 about1 = true := code_word (m := ⟨17, 1⟩) (meth := k17m1) (c := k17c1) (by decide +kernel) rfl rfl rfl (by decide +kernel)
set_option maxRecDepth 65536 in
theorem w_c12 : (Jvm.Cond.code ({ cls := "java/lang/StringLatin1", name := "canEncode", desc := "(C)Z" } : Jvm.MethodName) jdk_43_method_3_code (1 : Nat) (Option.some Jvm.ClassFile.FieldType.boolean)).before args0 about1 = true := code_word (m := ⟨18, 1⟩) (meth := k18m1) (c := k18c1) (by decide +kernel) rfl rfl rfl (by decide +kernel)
set_option maxRecDepth 65536 in
theorem w_c13 : (Jvm.Cond.code ({ cls := "java/lang/StringLatin1", name := "toBytes", desc := "(C)[B" } : Jvm.MethodName) jdk_43_method_46_code (1 : Nat) (Option.some (Jvm.ClassFile.FieldType.array Jvm.ClassFile.FieldType.byte))).before args0 about1 = true := code_word (m := ⟨18, 2⟩) (meth := k18m2) (c := k18c2) (by decide +kernel) rfl rfl rfl (by decide +kernel)
set_option maxRecDepth 65536 in
theorem w_c14 : (Jvm.Cond.code ({ cls := "java/lang/String", name := "<init>", desc := "([BB)V" } : Jvm.MethodName) jdk_42_method_151_code (3 : Nat) (Option.none : Option Jvm.ClassFile.FieldType)).before args0 about1 = true := code_word (m := ⟨17, 2⟩) (meth := k17m2) (c := k17c2) (by decide +kernel) rfl rfl rfl (by decide +kernel)
set_option maxRecDepth 65536 in
theorem w_c15 : (Jvm.Cond.code ({ cls := "com/example/keep_count/keepcount/api/BatchResult", name := "rejected", desc := "(JLjava/lang/String;)V" } : Jvm.MethodName) prog_11_method_3_code (4 : Nat) (Option.none : Option Jvm.ClassFile.FieldType)).before args0 about1 = true := code_word (m := ⟨2, 2⟩) (meth := k2m2) (c := k2c2) (by decide +kernel) rfl rfl rfl (by decide +kernel)
set_option maxRecDepth 65536 in
theorem w_c16 : (Jvm.Cond.code ({ cls := "java/util/ArrayList", name := "size", desc := "()I" } : Jvm.MethodName) jdk_38_method_8_code (1 : Nat) (Option.some Jvm.ClassFile.FieldType.int)).before args0 about1 = true := code_word (m := ⟨12, 3⟩) (meth := k12m3) (c := k12c3) (by decide +kernel) rfl rfl rfl (by decide +kernel)
set_option maxRecDepth 65536 in
theorem w_c17 : (Jvm.Cond.code ({ cls := "com/example/keep_count/keepcount/api/BatchResult$Rejection", name := "<init>", desc := "(JLjava/lang/String;)V" } : Jvm.MethodName) prog_12_method_1_code (4 : Nat) (Option.none : Option Jvm.ClassFile.FieldType)).before args0 about1 = true := code_word (m := ⟨20, 0⟩) (meth := k20m0) (c := k20c0) (by decide +kernel) rfl rfl rfl (by decide +kernel)
set_option maxRecDepth 65536 in
theorem w_c18 : (Jvm.Cond.code ({ cls := "java/lang/Record", name := "<init>", desc := "()V" } : Jvm.MethodName) jdk_30_method_1_code (1 : Nat) (Option.none : Option Jvm.ClassFile.FieldType)).before args0 about1 = true := code_word (m := ⟨19, 0⟩) (meth := k19m0) (c := k19c0) (by decide +kernel) rfl rfl rfl (by decide +kernel)
set_option maxRecDepth 65536 in
theorem w_c19 : (Jvm.Cond.code ({ cls := "java/util/ArrayList", name := "add", desc := "(Ljava/lang/Object;)Z" } : Jvm.MethodName) jdk_38_method_25_code (2 : Nat) (Option.some Jvm.ClassFile.FieldType.boolean)).before args0 about1 = true := code_word (m := ⟨12, 5⟩) (meth := k12m5) (c := k12c5) (by decide +kernel) rfl rfl rfl (by decide +kernel)
set_option maxRecDepth 65536 in
theorem w_c20 : (Jvm.Cond.code ({ cls := "java/util/ArrayList", name := "add", desc := "(Ljava/lang/Object;[Ljava/lang/Object;I)V" } : Jvm.MethodName) jdk_38_method_24_code (4 : Nat) (Option.none : Option Jvm.ClassFile.FieldType)).before args0 about1 = true := code_word (m := ⟨12, 4⟩) (meth := k12m4) (c := k12c4) (by decide +kernel) rfl rfl rfl (by decide +kernel)
set_option maxRecDepth 65536 in
theorem w_c21 : (Jvm.Cond.code ({ cls := "java/util/ArrayList", name := "grow", desc := "()[Ljava/lang/Object;" } : Jvm.MethodName) jdk_38_method_7_code (1 : Nat) (Option.some (Jvm.ClassFile.FieldType.array (Jvm.ClassFile.FieldType.object "java/lang/Object")))).before args0 about1 = true := code_word (m := ⟨12, 2⟩) (meth := k12m2) (c := k12c2) (by decide +kernel) rfl rfl rfl (by decide +kernel)
set_option maxRecDepth 65536 in
theorem w_c22 : (Jvm.Cond.code ({ cls := "java/util/ArrayList", name := "grow", desc := "(I)[Ljava/lang/Object;" } : Jvm.MethodName) jdk_38_method_6_code (4 : Nat) (Option.some (Jvm.ClassFile.FieldType.array (Jvm.ClassFile.FieldType.object "java/lang/Object")))).before args0 about1 = true := code_word (m := ⟨12, 1⟩) (meth := k12m1) (c := k12c1) (by decide +kernel) rfl rfl rfl (by decide +kernel)
set_option maxRecDepth 65536 in
theorem w_c23 : (Jvm.Cond.code ({ cls := "java/lang/Math", name := "max", desc := "(II)I" } : Jvm.MethodName) jdk_29_method_65_code (2 : Nat) (Option.some Jvm.ClassFile.FieldType.int)).before args0 about1 = true := code_word (m := ⟨21, 1⟩) (meth := k21m1) (c := k21c1) (by decide +kernel) rfl rfl rfl (by decide +kernel)
def codes1 : List Jvm.Cond := [Jvm.Cond.code x code maxLocals ret, Jvm.Cond.code ({ cls := "com/example/keep_count/keepcount/api/BatchResult", name := "<init>", desc := "()V" } : Jvm.MethodName) prog_11_method_1_code (1 : Nat) (Option.none : Option Jvm.ClassFile.FieldType), Jvm.Cond.code ({ cls := "java/lang/Object", name := "<init>", desc := "()V" } : Jvm.MethodName) object_method_1_code (1 : Nat) (Option.none : Option Jvm.ClassFile.FieldType), Jvm.Cond.code ({ cls := "java/util/ArrayList", name := "<init>", desc := "()V" } : Jvm.MethodName) jdk_38_method_2_code (1 : Nat) (Option.none : Option Jvm.ClassFile.FieldType), Jvm.Cond.code ({ cls := "java/util/AbstractList", name := "<init>", desc := "()V" } : Jvm.MethodName) jdk_39_method_1_code (1 : Nat) (Option.none : Option Jvm.ClassFile.FieldType), Jvm.Cond.code ({ cls := "java/util/AbstractCollection", name := "<init>", desc := "()V" } : Jvm.MethodName) jdk_22_method_1_code (1 : Nat) (Option.none : Option Jvm.ClassFile.FieldType), Jvm.Cond.code ({ cls := "com/example/keep_count/keepcount/api/BatchResult", name := "checked", desc := "(Z)V" } : Jvm.MethodName) prog_11_method_2_code (2 : Nat) (Option.none : Option Jvm.ClassFile.FieldType), Jvm.Cond.code ({ cls := "com/example/keep_count/keepcount/api/BatchResult", name := "allowed", desc := "()J" } : Jvm.MethodName) prog_11_method_5_code (1 : Nat) (Option.some Jvm.ClassFile.FieldType.long), Jvm.Cond.code ({ cls := "com/example/keep_count/keepcount/api/BatchResult", name := "denied", desc := "()J" } : Jvm.MethodName) prog_11_method_6_code (1 : Nat) (Option.some Jvm.ClassFile.FieldType.long), Jvm.Cond.code ({ cls := "com/example/keep_count/keepcount/api/BatchResult", name := "rejected", desc := "()J" } : Jvm.MethodName) prog_11_method_7_code (1 : Nat) (Option.some Jvm.ClassFile.FieldType.long), Jvm.Cond.code ({ cls := "com/example/keep_count/keepcount/api/BatchResult", name := "received", desc := "()J" } : Jvm.MethodName) prog_11_method_4_code (1 : Nat) (Option.some Jvm.ClassFile.FieldType.long), Jvm.Cond.code ({ cls := "java/lang/String", name := "valueOf", desc := "(C)Ljava/lang/String;" } : Jvm.MethodName) jdk_42_method_139_code (1 : Nat) (Option.some (Jvm.ClassFile.FieldType.object "java/lang/String")), Jvm.Cond.code ({ cls := "java/lang/StringLatin1", name := "canEncode", desc := "(C)Z" } : Jvm.MethodName) jdk_43_method_3_code (1 : Nat) (Option.some Jvm.ClassFile.FieldType.boolean), Jvm.Cond.code ({ cls := "java/lang/StringLatin1", name := "toBytes", desc := "(C)[B" } : Jvm.MethodName) jdk_43_method_46_code (1 : Nat) (Option.some (Jvm.ClassFile.FieldType.array Jvm.ClassFile.FieldType.byte)), Jvm.Cond.code ({ cls := "java/lang/String", name := "<init>", desc := "([BB)V" } : Jvm.MethodName) jdk_42_method_151_code (3 : Nat) (Option.none : Option Jvm.ClassFile.FieldType), Jvm.Cond.code ({ cls := "com/example/keep_count/keepcount/api/BatchResult", name := "rejected", desc := "(JLjava/lang/String;)V" } : Jvm.MethodName) prog_11_method_3_code (4 : Nat) (Option.none : Option Jvm.ClassFile.FieldType), Jvm.Cond.code ({ cls := "java/util/ArrayList", name := "size", desc := "()I" } : Jvm.MethodName) jdk_38_method_8_code (1 : Nat) (Option.some Jvm.ClassFile.FieldType.int), Jvm.Cond.code ({ cls := "com/example/keep_count/keepcount/api/BatchResult$Rejection", name := "<init>", desc := "(JLjava/lang/String;)V" } : Jvm.MethodName) prog_12_method_1_code (4 : Nat) (Option.none : Option Jvm.ClassFile.FieldType), Jvm.Cond.code ({ cls := "java/lang/Record", name := "<init>", desc := "()V" } : Jvm.MethodName) jdk_30_method_1_code (1 : Nat) (Option.none : Option Jvm.ClassFile.FieldType), Jvm.Cond.code ({ cls := "java/util/ArrayList", name := "add", desc := "(Ljava/lang/Object;)Z" } : Jvm.MethodName) jdk_38_method_25_code (2 : Nat) (Option.some Jvm.ClassFile.FieldType.boolean), Jvm.Cond.code ({ cls := "java/util/ArrayList", name := "add", desc := "(Ljava/lang/Object;[Ljava/lang/Object;I)V" } : Jvm.MethodName) jdk_38_method_24_code (4 : Nat) (Option.none : Option Jvm.ClassFile.FieldType), Jvm.Cond.code ({ cls := "java/util/ArrayList", name := "grow", desc := "()[Ljava/lang/Object;" } : Jvm.MethodName) jdk_38_method_7_code (1 : Nat) (Option.some (Jvm.ClassFile.FieldType.array (Jvm.ClassFile.FieldType.object "java/lang/Object"))), Jvm.Cond.code ({ cls := "java/util/ArrayList", name := "grow", desc := "(I)[Ljava/lang/Object;" } : Jvm.MethodName) jdk_38_method_6_code (4 : Nat) (Option.some (Jvm.ClassFile.FieldType.array (Jvm.ClassFile.FieldType.object "java/lang/Object"))), Jvm.Cond.code ({ cls := "java/lang/Math", name := "max", desc := "(II)I" } : Jvm.MethodName) jdk_29_method_65_code (2 : Nat) (Option.some Jvm.ClassFile.FieldType.int)]
set_option maxRecDepth 65536 in
theorem codes_eq : words1.filter isCode = codes1 := rfl
theorem w_codes : ∀ c ∈ words1.filter isCode, c.before args0 about1 = true := by
  rw [codes_eq]
  intro c hc
  simp only [codes1, List.mem_cons, List.not_mem_nil, or_false] at hc
  rcases hc with rfl | rfl | rfl | rfl | rfl | rfl | rfl | rfl | rfl | rfl | rfl | rfl | rfl | rfl | rfl | rfl | rfl | rfl | rfl | rfl | rfl | rfl | rfl | rfl
  · exact w_c0
  · exact w_c1
  · exact w_c2
  · exact w_c3
  · exact w_c4
  · exact w_c5
  · exact w_c6
  · exact w_c7
  · exact w_c8
  · exact w_c9
  · exact w_c10
  · exact w_c11
  · exact w_c12
  · exact w_c13
  · exact w_c14
  · exact w_c15
  · exact w_c16
  · exact w_c17
  · exact w_c18
  · exact w_c19
  · exact w_c20
  · exact w_c21
  · exact w_c22
  · exact w_c23
set_option maxRecDepth 65536 in
theorem w_t1 : (words1.take 24).all (fun c => isCode c || c.before args0 about1) = true := by decide +kernel
set_option maxRecDepth 65536 in
theorem w_t2 : ((words1.drop 24).take 24).all (fun c => isCode c || c.before args0 about1) = true := by decide +kernel
set_option maxRecDepth 65536 in
theorem w_t3 : (((words1.drop 24).drop 24).take 24).all (fun c => isCode c || c.before args0 about1) = true := by decide +kernel
set_option maxRecDepth 65536 in
theorem w_t4 : ((((words1.drop 24).drop 24).drop 24).take 24).all (fun c => isCode c || c.before args0 about1) = true := by decide +kernel
set_option maxRecDepth 65536 in
theorem w_t5 : (((((words1.drop 24).drop 24).drop 24).drop 24).take 24).all (fun c => isCode c || c.before args0 about1) = true := by decide +kernel
set_option maxRecDepth 65536 in
theorem w_t6 : ((((((words1.drop 24).drop 24).drop 24).drop 24).drop 24).take 24).all (fun c => isCode c || c.before args0 about1) = true := by decide +kernel
set_option maxRecDepth 65536 in
theorem w_t7 : ((((((words1.drop 24).drop 24).drop 24).drop 24).drop 24).drop 24).all (fun c => isCode c || c.before args0 about1) = true := by decide +kernel
theorem w_tables : (allAtoms (Jvm.Cond.code x code maxLocals ret :: tables_1)).before args0 about1 = true := by
  rw [allAtoms_all]
  show words1.all (fun c => c.before args0 about1) = true
  refine all_split ?_ w_codes
  rw [← List.take_append_drop 24 words1, List.all_append, w_t1, ← List.take_append_drop 24 (words1.drop 24), List.all_append, w_t2, ← List.take_append_drop 24 ((words1.drop 24).drop 24), List.all_append, w_t3, ← List.take_append_drop 24 (((words1.drop 24).drop 24).drop 24), List.all_append, w_t4, ← List.take_append_drop 24 ((((words1.drop 24).drop 24).drop 24).drop 24), List.all_append, w_t5, ← List.take_append_drop 24 (((((words1.drop 24).drop 24).drop 24).drop 24).drop 24), List.all_append, w_t6, w_t7]
  rfl
set_option maxRecDepth 65536 in
theorem w_rest : rest_1_c.before args0 about1 = true := by decide +kernel
set_option maxRecDepth 65536 in
theorem w_case : (Jvm.Cond.and given_1 narrow_1).before args0 about1 = true := by decide +kernel
theorem w_applies : (headSpec (Jvm.Cond.code x code maxLocals ret :: tables_1) room_1).applies x e0.platform about1 = true :=
  (Spec.applies_iff w_frames).mpr ⟨w_running, w_runnable, w_alone, w_named, w_hears, w_ripe, w_room, w_tables⟩
theorem atStart : AtStart classFile x code maxLocals ret World_1 tables_1 room_1 Calls_1 rest_1 Pre_1 launch0 p0 e0 about1 theMethod args0 below0 :=
  ⟨lists_1, trivial, launch0.admits_env _ _ _, launch0.least_env, fairChoices_fair.cas, fairChoices_fair.clock, w_frames, w_args, w_heap, w_applies, trivial, w_rest, w_case⟩
end start1
theorem witness_1 : WitnessClaimed_1 := ⟨start1.p0, start1.e0, start1.about1, start1.theMethod, start1.args0, start1.below0, start1.atStart⟩
end Jvm.Pilot.@@N@@
