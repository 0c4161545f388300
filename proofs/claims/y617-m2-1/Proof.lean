import JvmDerived
import JvmDerived.Pilot.@@N@@Statement
import JvmDerived.Pilot.@@N@@Code
set_option linter.unusedVariables false
set_option linter.unusedSimpArgs false
namespace Jvm.Pilot.@@N@@
open Jvm Jvm.ClassFile Sem Op Lib Jvm.Free Jvm.Stand Jvm.LawKit Jvm.RoadKit Bundle Jvm.Pilot.@@N@@.Jvm.D
/-! own_Out: from the frame g over T the run comes to a return of which Q speaks. A walk is a proof of own_Out from its entry, backwards step by step; so it may fork. -/
section OwnKit
variable {p : Program} {l : Launch} {e : Env} {R : Room} {s : State} {m : MethodId} {args : Array Value} {below : List Frame} {meth : Method} {c : Code} {T : State} {locs : List Loc} {cells slots kc ks : Nat} {Z : State} {a0 : Array Value} {h h' h0 : Heap} {Q : Option Value → Heap → List Loc → Prop} {g : JFrame}
def own_Out (p : Program) (e : Env) (below : List Frame) (s : State) (Q : Option Value → Heap → List Loc → Prop) (kc ks : Nat) (T : State) (g : JFrame) : Prop :=
  ∃ U o, Steps p.tables e below (T.setTop g) U ∧ U.status = .running ∧ Ended U below o ∧ ∃ v L, o = .returned v ∧ Q v U.heap L ∧ FrameEnd s o U L kc ks
theorem own_st (T' : State) (g' : JFrame) (st : ∀ t, Steps p.tables e below (T'.setTop g') t → Steps p.tables e below (T.setTop g) t) (k : own_Out p e below s Q kc ks T' g') : own_Out p e below s Q kc ks T g := by
  obtain ⟨U, o, h1, h2⟩ := k; exact ⟨U, o, st _ h1, h2⟩
theorem own_tr (T' : State) (g' : JFrame) (st : Steps p.tables e below (T.setTop g) (T'.setTop g')) (k : own_Out p e below s Q kc ks T' g') : own_Out p e below s Q kc ks T g := by
  obtain ⟨U, o, h1, h2⟩ := k; exact ⟨U, o, st.trans h1, h2⟩
theorem own_ret (X : Stand p l e R s m args below meth c T locs cells slots) (hx : p.tables.exec = Jvm.exec) (hlk : meth.locks = false) {pc : Nat} {Ls : Array Slot} {w : Value} {t : FieldType} {i : Instr} {rest : List Value} (hret : meth.sig.returnType = some t) (hn : narrow t w = w)
    (hi : (i = .ireturn ∧ (t = .int ∨ t = .boolean ∨ t = .byte ∨ t = .char ∨ t = .short) ∧ ∃ z, w = .int z) ∨ (i = .lreturn ∧ t = .long ∧ ∃ z, w = .long z) ∨ (i = .dreturn ∧ t = .double ∧ ∃ z, w = .double z) ∨ (i = .freturn ∧ t = .float ∧ ∃ z, w = .float z) ∨ (i = .areturn ∧ t.isReference = true ∧ w.isRef = true))
    (hd : decode c.code pc = .ok (i, 1)) (hc : cells ≤ kc) (hs : slots ≤ ks) (hq : Q (some w) T.heap locs) : own_Out p e below s Q kc ks T (mkF m pc Ls (w :: rest)) := by
  obtain ⟨fs, hr, hrun, hended, hW, hsame⟩ := X.leave (v := some w) (fun h => by rw [hret] at h; cases h) hlk
  exact ⟨_, _, retOut X hx hret hn hi hd hr, hrun, hended, _, _, rfl, hq, ⟨_, rfl⟩, hW, hsame.mono hc hs⟩
theorem own_retI (X : Stand p l e R s m args below meth c T locs cells slots) (hx : p.tables.exec = Jvm.exec) (hlk : meth.locks = false) {pc : Nat} {Ls : Array Slot} {z : Int32} {rest : List Value} (hret : meth.sig.returnType = some .int)
    (hd : decode c.code pc = .ok (.ireturn, 1)) (hc : cells ≤ kc) (hs : slots ≤ ks) (hq : Q (some (.int z)) T.heap locs) : own_Out p e below s Q kc ks T (mkF m pc Ls (.int z :: rest)) :=
  own_ret X hx hlk hret rfl (Or.inl ⟨rfl, Or.inl rfl, z, rfl⟩) hd hc hs hq
theorem own_retJ (X : Stand p l e R s m args below meth c T locs cells slots) (hx : p.tables.exec = Jvm.exec) (hlk : meth.locks = false) {pc : Nat} {Ls : Array Slot} {z : Int64} {rest : List Value} (hret : meth.sig.returnType = some .long)
    (hd : decode c.code pc = .ok (.lreturn, 1)) (hc : cells ≤ kc) (hs : slots ≤ ks) (hq : Q (some (.long z)) T.heap locs) : own_Out p e below s Q kc ks T (mkF m pc Ls (.long z :: rest)) :=
  own_ret X hx hlk hret rfl (Or.inr (Or.inl ⟨rfl, rfl, z, rfl⟩)) hd hc hs hq
theorem own_nref {t : FieldType} {w : Value} (ht : t.isReference = true) (hw : w.isRef = true) : narrow t w = w := by
  cases t <;> first | (cases ht; done) | (cases w <;> first | rfl | (cases hw; done))
theorem own_retA (X : Stand p l e R s m args below meth c T locs cells slots) (hx : p.tables.exec = Jvm.exec) (hlk : meth.locks = false) {pc : Nat} {Ls : Array Slot} {w : Value} {t : FieldType} {rest : List Value} (hret : meth.sig.returnType = some t) (ht : t.isReference = true) (hw : w.isRef = true)
    (hd : decode c.code pc = .ok (.areturn, 1)) (hc : cells ≤ kc) (hs : slots ≤ ks) (hq : Q (some w) T.heap locs) : own_Out p e below s Q kc ks T (mkF m pc Ls (w :: rest)) :=
  own_ret X hx hlk hret (own_nref ht hw) (Or.inr (Or.inr (Or.inr (Or.inr ⟨rfl, ht, hw⟩)))) hd hc hs hq
theorem own_retN (X : Stand p l e R s m args below meth c T locs cells slots) (hx : p.tables.exec = Jvm.exec) (hlk : meth.locks = false) {pc : Nat} {Ls : Array Slot} {z : Int32} {t : FieldType} {rest : List Value} (hret : meth.sig.returnType = some t) (ht : t = .boolean ∨ t = .byte ∨ t = .char ∨ t = .short)
    (hd : decode c.code pc = .ok (.ireturn, 1)) (hc : cells ≤ kc) (hs : slots ≤ ks) (hq : Q (some (.int (nar t z))) T.heap locs) : own_Out p e below s Q kc ks T (mkF m pc Ls (.int z :: rest)) := by
  obtain ⟨fs, hr, hrun, hended, hW, hsame⟩ := X.leave (v := some (.int (nar t z))) (fun h => by rw [hret] at h; cases h) hlk
  exact ⟨_, _, retN X hx hret ht hd hr, hrun, hended, _, _, rfl, hq, ⟨_, rfl⟩, hW, hsame.mono hc hs⟩
theorem own_ret0 (X : Stand p l e R s m args below meth c T locs cells slots) (hx : p.tables.exec = Jvm.exec) (hlk : meth.locks = false) {pc : Nat} {Ls : Array Slot} (hret : meth.sig.returnType = none)
    (hd : decode c.code pc = .ok (.return_, 1)) (hc : cells ≤ kc) (hs : slots ≤ ks) (hq : Q none T.heap locs) : own_Out p e below s Q kc ks T (mkF m pc Ls []) := by
  obtain ⟨fs, hr, hrun, hended, hW, hsame⟩ := X.leave (v := none) (fun _ => rfl) hlk
  exact ⟨_, _, X.returnOut hx hret hd hr, hrun, hended, _, _, rfl, hq, ⟨_, rfl⟩, hW, hsame.mono hc hs⟩
/-- a method's contract at the arguments as' over the heap h0 -/
def own_Met (l : Launch) (Z : State) (y : MethodName) (bytes : ByteArray) (maxL : Nat) (ret : Option FieldType) (rm : Room) (as' : Array Value) (h0 : Heap) (Q : Option Value → Heap → List Loc → Prop) : Prop :=
  ∀ ws : List Jvm.Cond, MetFree l y (head1 (Jvm.Cond.code y bytes maxL ret :: ws) rm) (fun a U => a = as' ∧ Z.Warmed39 U.vm ∧ U.heap = h0) (fun _ _ _ _ _ => True) (fun _ U o U' => ∃ v L, o = .returned v ∧ Q v U'.heap L ∧ FrameEnd U o U' L rm.cells rm.slots)
theorem own_body {y : MethodName} {bytes : ByteArray} {maxL : Nat} {ret : Option FieldType} {rm : Room} {as' : Array Value} (Ls : Array Slot) (hp : plainFor y = true) (hef : ∀ m, entryFrame m as' maxL = mkF m 0 Ls [])
    (hbody : ∀ (p : Program) (e : Env) (s : State) (m : MethodId) (below : List Frame) (meth : Method) (c : Code) (s₁ : State), Stand p l e rm s m as' below meth c s₁ [] 0 0 → p.tables.exec = Jvm.exec → c.code = bytes → c.maxLocals = maxL → meth.sig.returnType = ret → meth.locks = false → Z.Warmed39 s.vm → s.vm.findClass y.cls = some m.cls → meth.name = y.name → s₁.heap = h0 →
      own_Out p e below s Q rm.cells rm.slots s₁ (mkF m 0 Ls [])) : own_Met l Z y bytes maxL ret rm as' h0 Q := by
  intro ws
  refine MetFree.of_bodySF hp hisR ?_
  intro p e s m args below meth c s₁ Bd hml0 hP hK
  obtain ⟨rfl, hZ, hh⟩ := hP
  have X0 : Stand p l e rm s m args below meth c s₁ [] 0 0 := Stand.of_body Bd
  have e0 : s₁.heap = h0 := by rw [← hh, Bd.state]; rfl
  obtain ⟨U, o, h1, h2⟩ := hbody p e s m below meth c s₁ X0 Bd.exec Bd.bytes hml0 Bd.returns Bd.notSynchronized hZ (findClass_of_methodNamed Bd.named) (name_of_methodNamed Bd.named Bd.method).1 e0
  exact ⟨U, o, castTop (hef m) h1, h2⟩
theorem own_callS (X : Stand p l e R s m args below meth c T locs cells slots) (hx : p.tables.exec = Jvm.exec) (hZ : Z.Warmed39 s.vm) {own : String} {index : Nat} {y : MethodName} {bytes : ByteArray} {maxL : Nat} {ret : Option FieldType} (hown : s.vm.findClass own = some m.cls)
    (w1 : (Cond.methodLink own index y).before a0 Z = true) (w2 : (Cond.static y).before a0 Z = true) (w3 : (Cond.initialized y.cls).before a0 Z = true) (w4 : (Cond.code y bytes maxL ret).before a0 Z = true) (hy : y.cls ≠ "java/lang/invoke/MethodHandle" ∧ y.cls ≠ "java/lang/invoke/VarHandle")
    {rm : Room} (argsL rest : List Value) {Qc : Option Value → Heap → List Loc → Prop} (M : own_Met l Z y bytes maxL ret rm argsL.toArray h Qc) (W : Nat) (hf : rm.frames + 1 ≤ R.frames) (hl : W + (maxL + 11) + rm.locals ≤ R.locals) (eT : T.heap = h)
    {pc : Nat} {Ls : Array Slot} {st : List Value} (hsize : Ls.size = c.maxLocals) (hlen : ∀ sig, parseMethodDescriptor y.desc = some sig → argsL.length = sig.parameters.length) (hstack : st = argsL.reverse ++ rest) (hW : (rest.map fun v => v.category).sum ≤ W)
    (hd : decode c.code pc = .ok (.invokestatic index, 3)) (hc : cells + rm.cells ≤ R.cells) (hs : slots + rm.slots ≤ R.slots)
    (k : ∀ v T' L, Stand p l e R s m args below meth c T' (locs ++ L) (cells + rm.cells) (slots + rm.slots) → Qc v T'.heap L → own_Out p e below s Q kc ks T' (mkF m (pc + 3) Ls (v.toList ++ rest))) : own_Out p e below s Q kc ks T (mkF m pc Ls st) := by
  obtain ⟨v, vm1, ⟨T', L', c', n'⟩, -, X', ⟨L, hQ, r1, r2, r3⟩, stp⟩ := Jvm.LawKit.callS X hx (y := y) (bytes := bytes) (maxL := maxL) (ret := ret) hown (mvT hZ w1) (mvT hZ w2) (mvT hZ w3) (mvT hZ w4) hy (backOf (W := W) (M []) hZ w4 w3 hf hl) (g := mkF m pc Ls st) rfl hsize (argsL := argsL) (rest := rest) hlen hstack (by show 2 * 0 + _ ≤ _; omega) hd (fun _ _ => ⟨rfl, eT, hc, hs⟩)
  dsimp only [Pt.U, Pt.locs, Pt.cells, Pt.slots] at X' r1 r2 r3 stp hQ
  subst r1 r2 r3
  exact own_st _ _ stp (k v T' L X' hQ)
theorem own_callC (X : Stand p l e R s m args below meth c T locs cells slots) (hx : p.tables.exec = Jvm.exec) (hZ : Z.Warmed39 s.vm) {own : String} {index : Nat} {y : MethodName} {bytes : ByteArray} {maxL : Nat} (hy1 : y.name = "<init>") (hown : s.vm.findClass own = some m.cls)
    (w1 : (Cond.methodLink own index y).before a0 Z = true) (w2 : (Cond.instanceMethod y).before a0 Z = true) (w3 : (Cond.initialized y.cls).before a0 Z = true) (w4 : (Cond.code y bytes maxL none).before a0 Z = true) (hy : y.cls ≠ "java/lang/invoke/MethodHandle" ∧ y.cls ≠ "java/lang/invoke/VarHandle")
    {rm : Room} (a : Addr) (argsL rest : List Value) {Qc : Option Value → Heap → List Loc → Prop} (M : own_Met l Z y bytes maxL none rm (.ref a :: argsL).toArray h Qc) (W : Nat) (hf : rm.frames + 1 ≤ R.frames) (hl : W + (maxL + 11) + rm.locals ≤ R.locals) (eT : T.heap = h)
    {pc : Nat} {Ls : Array Slot} {st : List Value} (hsize : Ls.size = c.maxLocals) (hlen : ∀ sig, parseMethodDescriptor y.desc = some sig → argsL.length = sig.parameters.length) (hstack : st = argsL.reverse ++ .ref a :: rest) (hW : (rest.map fun v => v.category).sum ≤ W)
    (hd : decode c.code pc = .ok (.invokespecial index, 3)) (hc : cells + rm.cells ≤ R.cells) (hs : slots + rm.slots ≤ R.slots)
    (k : ∀ v T' L, Stand p l e R s m args below meth c T' (locs ++ L) (cells + rm.cells) (slots + rm.slots) → Qc v T'.heap L → own_Out p e below s Q kc ks T' (mkF m (pc + 3) Ls (v.toList ++ rest))) : own_Out p e below s Q kc ks T (mkF m pc Ls st) := by
  obtain ⟨v, vm1, ⟨T', L', c', n'⟩, -, X', ⟨L, hQ, r1, r2, r3⟩, stp⟩ := X.specialBack hx (y := y) (bytes := bytes) (maxL := maxL) hy1 hown (mvT hZ w1) (mvT hZ w2) (mvT hZ w4) hy (backOf (W := W) (M []) hZ w4 w3 hf hl) (g := mkF m pc Ls st) rfl hsize (Steps.refl _) (a := a) (argsL := argsL) (rest := rest) hlen hstack (by show 2 * 0 + _ ≤ _; omega) hd (fun _ _ => ⟨rfl, eT, hc, hs⟩)
  dsimp only [Pt.U, Pt.locs, Pt.cells, Pt.slots] at X' r1 r2 r3 stp hQ
  subst r1 r2 r3
  exact own_tr _ _ stp (k v T' L X' hQ)
theorem own_callV (X : Stand p l e R s m args below meth c T locs cells slots) (hx : p.tables.exec = Jvm.exec) (hZ : Z.Warmed39 s.vm) {own C : String} {index : Nat} {y z : MethodName} {bytes : ByteArray} {maxL : Nat} {ret : Option FieldType} (hown : s.vm.findClass own = some m.cls)
    (w1 : (Cond.methodLink own index y).before a0 Z = true) (w2 : (Cond.declares y).before a0 Z = true) (hnf : NotFace s y) (w5 : (Cond.selects C y z).before a0 Z = true) (w6 : (Cond.instanceMethod z).before a0 Z = true) (w3 : (Cond.initialized z.cls).before a0 Z = true) (w4 : (Cond.code z bytes maxL ret).before a0 Z = true) (hy : y.cls ≠ "java/lang/invoke/MethodHandle" ∧ y.cls ≠ "java/lang/invoke/VarHandle")
    {rm : Room} (a : Addr) (argsL rest : List Value) {Qc : Option Value → Heap → List Loc → Prop} (E : Exa Z h a C) (M : own_Met l Z z bytes maxL ret rm (.ref a :: argsL).toArray h Qc) (W : Nat) (hf : rm.frames + 1 ≤ R.frames) (hl : W + (maxL + 11) + rm.locals ≤ R.locals) (eT : T.heap = h)
    {pc : Nat} {Ls : Array Slot} {st : List Value} (hsize : Ls.size = c.maxLocals) (hlen : ∀ sig, parseMethodDescriptor y.desc = some sig → argsL.length = sig.parameters.length) (hstack : st = argsL.reverse ++ .ref a :: rest) (hW : (rest.map fun v => v.category).sum ≤ W)
    (hd : decode c.code pc = .ok (.invokevirtual index, 3)) (hc : cells + rm.cells ≤ R.cells) (hs : slots + rm.slots ≤ R.slots)
    (k : ∀ v T' L, Stand p l e R s m args below meth c T' (locs ++ L) (cells + rm.cells) (slots + rm.slots) → Qc v T'.heap L → own_Out p e below s Q kc ks T' (mkF m (pc + 3) Ls (v.toList ++ rest))) : own_Out p e below s Q kc ks T (mkF m pc Ls st) := by
  obtain ⟨cq, kq, qa, qb, qc⟩ := isOf hZ eT E
  obtain ⟨v, vm1, ⟨T', L', c', n'⟩, -, X', ⟨L, hQ, r1, r2, r3⟩, stp⟩ := X.virtualBack hx (y := y) (z := z) hown (mvT hZ w1) (mvT hZ w2) hnf (mvT hZ w5) (mvT hZ w6) hy (backOf (W := W) (M []) hZ w4 w3 hf hl) qa qc (g := mkF m pc Ls st) rfl hsize (Steps.refl _) (argsL := argsL) (rest := rest) hlen hstack (by show 2 * 0 + _ ≤ _; omega) hd (fun _ _ => ⟨rfl, eT, hc, hs⟩)
  dsimp only [Pt.U, Pt.locs, Pt.cells, Pt.slots] at X' r1 r2 r3 stp hQ
  subst r1 r2 r3
  exact own_tr _ _ stp (k v T' L X' hQ)
theorem own_callI (X : Stand p l e R s m args below meth c T locs cells slots) (hx : p.tables.exec = Jvm.exec) (hZ : Z.Warmed39 s.vm) {own C : String} {index count : Nat} {xi y : MethodName} {bytes : ByteArray} {maxL : Nat} {ret : Option FieldType} (hown : s.vm.findClass own = some m.cls)
    (w1 : (Cond.methodLink own index xi).before args s = true) (w2 : (Cond.declares xi).before args s = true) (w7 : (Cond.interfaceMethod xi.cls xi.cls xi.name xi.desc).before args s = true) (w5 : (Cond.selects C xi y).before args s = true) (w6 : (Cond.instanceMethod y).before args s = true) (w8 : (Cond.publicMethod y).before args s = true) (w9 : (Cond.unhidden C xi.name xi.desc).before args s = true) (w10 : (Cond.castable C xi.cls).before args s = true) (w3 : (Cond.initialized y.cls).before a0 Z = true) (w4 : (Cond.code y bytes maxL ret).before a0 Z = true) (hy : xi.cls ≠ "java/lang/invoke/MethodHandle" ∧ xi.cls ≠ "java/lang/invoke/VarHandle")
    {rm : Room} (a : Addr) (argsL rest : List Value) {Qc : Option Value → Heap → List Loc → Prop} (E : Exa Z h a C) (M : own_Met l Z y bytes maxL ret rm (.ref a :: argsL).toArray h Qc) (W : Nat) (hf : rm.frames + 1 ≤ R.frames) (hl : W + (maxL + 11) + rm.locals ≤ R.locals) (eT : T.heap = h)
    {pc : Nat} {Ls : Array Slot} {st : List Value} (hsize : Ls.size = c.maxLocals) (hlen : ∀ sig, parseMethodDescriptor xi.desc = some sig → argsL.length = sig.parameters.length) (hstack : st = argsL.reverse ++ .ref a :: rest) (hW : (rest.map fun v => v.category).sum ≤ W)
    (hd : decode c.code pc = .ok (.invokeinterface index count, 5)) (hc : cells + rm.cells ≤ R.cells) (hs : slots + rm.slots ≤ R.slots)
    (k : ∀ v T' L, Stand p l e R s m args below meth c T' (locs ++ L) (cells + rm.cells) (slots + rm.slots) → Qc v T'.heap L → own_Out p e below s Q kc ks T' (mkF m (pc + 5) Ls (v.toList ++ rest))) : own_Out p e below s Q kc ks T (mkF m pc Ls st) := by
  obtain ⟨cq, kq, qa, qb, qc⟩ := isOf hZ eT E
  obtain ⟨v, vm1, ⟨T', L', c', n'⟩, -, X', ⟨L, hQ, r1, r2, r3⟩, stp⟩ := X.interfaceBack hx (xi := xi) (y := y) hown w1 w2 w7 w5 w6 w8 w9 w10 hy (backOf (W := W) (M []) hZ w4 w3 hf hl) qa qb qc (g := mkF m pc Ls st) rfl hsize (Steps.refl _) (argsL := argsL) (rest := rest) hlen hstack (by show 2 * 0 + _ ≤ _; omega) hd (fun _ _ => ⟨rfl, eT, hc, hs⟩)
  dsimp only [Pt.U, Pt.locs, Pt.cells, Pt.slots] at X' r1 r2 r3 stp hQ
  subst r1 r2 r3
  exact own_tr _ _ stp (k v T' L X' hQ)
theorem own_callP (X : Stand p l e R s m args below meth c T locs cells slots) (hx : p.tables.exec = Jvm.exec) (hZ : Z.Warmed39 s.vm) {own : String} {index : Nat} {y : MethodName} {bytes : ByteArray} {maxL : Nat} {ret : Option FieldType} (hown : s.vm.findClass own = some m.cls)
    (w1 : (Cond.methodLink own index y).before a0 Z = true) (w2 : (Cond.instanceMethod y).before a0 Z = true) (w5 : (Cond.selects y.cls y y).before a0 Z = true) (w6 : (Cond.privateMethod y).before a0 Z = true) (w3 : (Cond.initialized y.cls).before a0 Z = true) (w4 : (Cond.code y bytes maxL ret).before a0 Z = true) (hy : y.cls ≠ "java/lang/invoke/MethodHandle" ∧ y.cls ≠ "java/lang/invoke/VarHandle")
    {rm : Room} (a : Addr) (argsL rest : List Value) {C : String} {Qc : Option Value → Heap → List Loc → Prop} (E : Exa Z h a C) (M : own_Met l Z y bytes maxL ret rm (.ref a :: argsL).toArray h Qc) (W : Nat) (hf : rm.frames + 1 ≤ R.frames) (hl : W + (maxL + 11) + rm.locals ≤ R.locals) (eT : T.heap = h)
    {pc : Nat} {Ls : Array Slot} {st : List Value} (hsize : Ls.size = c.maxLocals) (hlen : ∀ sig, parseMethodDescriptor y.desc = some sig → argsL.length = sig.parameters.length) (hstack : st = argsL.reverse ++ .ref a :: rest) (hW : (rest.map fun v => v.category).sum ≤ W)
    (hd : decode c.code pc = .ok (.invokevirtual index, 3)) (hc : cells + rm.cells ≤ R.cells) (hs : slots + rm.slots ≤ R.slots)
    (k : ∀ v T' L, Stand p l e R s m args below meth c T' (locs ++ L) (cells + rm.cells) (slots + rm.slots) → Qc v T'.heap L → own_Out p e below s Q kc ks T' (mkF m (pc + 3) Ls (v.toList ++ rest))) : own_Out p e below s Q kc ks T (mkF m pc Ls st) := by
  obtain ⟨cq, qa, qb⟩ := E.cell
  obtain ⟨v, vm1, ⟨T', L', c', n'⟩, -, X', ⟨L, hQ, r1, r2, r3⟩, stp⟩ := X.privateBack hx (y := y) (bytes := bytes) (maxL := maxL) (ret := ret) hown (mvT hZ w1) (mvT hZ w2) (mvT hZ w5) (Cond.privateMethod_at (mvP hZ w6 (args := #[]))) (mvT hZ w4) hy (backOf (W := W) (M []) hZ w4 w3 hf hl) (g := mkF m pc Ls st) rfl hsize (Steps.refl _) (a := a) (by rw [eT]; exact qa) qb (argsL := argsL) (rest := rest) hlen hstack (by show 2 * 0 + _ ≤ _; omega) hd (fun _ _ => ⟨rfl, eT, hc, hs⟩)
  dsimp only [Pt.U, Pt.locs, Pt.cells, Pt.slots] at X' r1 r2 r3 stp hQ
  subst r1 r2 r3
  exact own_tr _ _ stp (k v T' L X' hQ)
/-- an array by its values: n places, place i holds f i -/
def own_A (Z : State) (h : Heap) (a : Addr) (k : ClassId) (ty : FieldType) (n : Nat) (f : Nat → Value) : Prop := ∃ cl : Cell, Arr Z h a cl ty ∧ cl.cls = k ∧ cl.slots.size = n ∧ n < 2 ^ 31 ∧ ∀ i, i < n → cl.slots[i]? = some (f i)
variable {a b : Addr} {k : ClassId} {ty : FieldType} {n : Nat} {f f' : Nat → Value} {sl : Nat} {v : Value} {ws : List Addr}
theorem own_A.lt (F : own_A Z h a k ty n f) : a < h.size := by obtain ⟨c, A, -⟩ := F; exact A.lt
theorem own_A.ext (F : own_A Z h a k ty n f) (E : Ext h h') : own_A Z h' a k ty n f := by obtain ⟨c, A, r⟩ := F; exact ⟨c, A.ext E, r⟩
theorem own_A.other (F : own_A Z h b k ty n f) (W : Wr h h' a sl v) (q : b ≠ a) : own_A Z h' b k ty n f := by obtain ⟨c, A, r⟩ := F; exact ⟨c, A.other W q, r⟩
theorem own_A.keep (F : own_A Z h a k ty n f) (K : Keep h h' ws) (q : a ∉ ws) : own_A Z h' a k ty n f := by obtain ⟨c, A, r⟩ := F; exact ⟨c, ⟨K.2.1 a c A.1 q, A.2⟩, r⟩
theorem own_A.cong (F : own_A Z h a k ty n f) (q : ∀ i, i < n → f i = f' i) : own_A Z h a k ty n f' := by obtain ⟨c, A, r1, r2, r3, r4⟩ := F; exact ⟨c, A, r1, r2, r3, fun i hi => by rw [r4 i hi, q i hi]⟩
theorem own_A.new {z : Int32} (A : Arr Z h a (newA k ty z) ty) (q : ¬ z < 0) : own_A Z h a k ty z.toNatClampNeg (fun _ => defaultValue ty) := ⟨_, A, rfl, sz_new _ _ _, (back32 q).2, fun i hi => by simp [newA, hi]⟩
theorem own_A.newL {z : Int32} (A : Arr Z h a (newA k ty z) ty) (q : ¬ z < 0) (n : Nat) (hn : z.toNatClampNeg = n) (d : Value) (hd : defaultValue ty = d) : own_A Z h a k ty n (fun i => (List.replicate n d).getD i d) := by
  subst hn hd
  refine (own_A.new A q).cong fun i hi => ?_
  simp [List.getD_eq_getElem?_getD, List.getElem?_replicate, hi]
theorem own_jn {j : Int32} {i : Nat} (q : j.toInt = (i : Int)) : j.toNatClampNeg = i := by simp only [Int32.toNatClampNeg]; omega
theorem own_in {j : Int32} {i n : Nat} {cl : Cell} (q : j.toInt = (i : Int)) (hi : i < n) (S : cl.slots.size = n) : ¬ (j < 0 ∨ cl.slots.size ≤ j.toNatClampNeg) := by
  rw [own_jn q, Int32.lt_iff_toInt_lt, q, S]; have : (0 : Int32).toInt = 0 := rfl; omega
theorem own_A.set (F : own_A Z h a k ty n f) {i : Nat} (hi : i < n) (W : Wr h h' a i v) : own_A Z h' a k ty n (fun x => if x = i then v else f x) := by
  obtain ⟨cl, A, r1, r2, r3, r4⟩ := F
  refine ⟨_, A.same W, r1, by rw [sz_set]; exact r2, r3, fun x hx => ?_⟩
  by_cases q : x = i
  · subst q; simp [Cell.setSlot, r2, hi]
  · show (cl.slots.setIfInBounds i v)[x]? = _
    rw [Array.getElem?_setIfInBounds_ne (Ne.symm q)]; simp only [q, if_false]; exact r4 x hx
theorem own_A.setL {L : List Value} {d : Value} (F : own_A Z h a k ty n (fun x => L.getD x d)) {i : Nat} (hi : i < n) (hL : i < L.length) (W : Wr h h' a i v) : own_A Z h' a k ty n (fun x => (L.set i v).getD x d) := by
  refine (F.set hi W).cong fun x hx => ?_
  by_cases q : x = i
  · subst q; simp [List.getD_eq_getElem?_getD, List.getElem?_set, hL]
  · simp [List.getD_eq_getElem?_getD, List.getElem?_set, q, Ne.symm q]
theorem own_A.setI {b : Nat → Int32} {x : Int32} (F : own_A Z h a k ty n (fun y => .int (b y))) {i : Nat} (hi : i < n) (W : Wr h h' a i (.int x)) : own_A Z h' a k ty n (fun y => .int (if y = i then x else b y)) := by
  refine (F.set hi W).cong fun y hy => ?_
  by_cases q : y = i <;> simp [q]
theorem own_A.setLI {L : List Int32} {x : Int32} (F : own_A Z h a k ty n (fun y => .int (L.getD y 0))) {i : Nat} (hi : i < n) (hL : i < L.length) (W : Wr h h' a i (.int x)) : own_A Z h' a k ty n (fun y => .int ((L.set i x).getD y 0)) := by
  refine (F.setI hi W).cong fun y hy => ?_
  by_cases q : y = i
  · subst q; simp [List.getD_eq_getElem?_getD, List.getElem?_set, hL]
  · simp [List.getD_eq_getElem?_getD, List.getElem?_set, q, Ne.symm q]
theorem own_A.snocI {L : List Int32} {x : Int32} (F : own_A Z h a k ty n (fun y => .int (L.getD y 0))) {i : Nat} (hi : i < n) (hL : L.length = i) (W : Wr h h' a i (.int x)) : own_A Z h' a k ty n (fun y => .int ((L ++ [x]).getD y 0)) := by
  refine (F.setI hi W).cong fun y hy => ?_
  by_cases q : y = i
  · subst q; subst hL; simp [List.getD_eq_getElem?_getD]
  · by_cases r : y < L.length
    · simp [List.getD_eq_getElem?_getD, q, List.getElem?_append_left r]
    · have h1 : L[y]? = none := List.getElem?_eq_none (by omega)
      have h2 : (L ++ [x])[y]? = none := List.getElem?_eq_none (by simp; omega)
      simp [List.getD_eq_getElem?_getD, q, h1, h2]
theorem own_A.newI {z : Int32} (A : Arr Z h a (newA k ty z) ty) (q : ¬ z < 0) (n : Nat) (hn : z.toNatClampNeg = n) (hd : defaultValue ty = .int 0) : own_A Z h a k ty n (fun _ => .int 0) := by
  subst hn; rw [← hd]; exact own_A.new A q
theorem own_A.newLI {z : Int32} (A : Arr Z h a (newA k ty z) ty) (q : ¬ z < 0) (n : Nat) (hn : z.toNatClampNeg = n) (hd : defaultValue ty = .int 0) : own_A Z h a k ty n (fun y => .int ((List.replicate n (0 : Int32)).getD y 0)) := by
  refine (own_A.newI A q n hn hd).cong fun i hi => ?_
  simp [List.getD_eq_getElem?_getD, List.getElem?_replicate, hi]
theorem own_stI (X : Stand p l e R s m args below meth c T locs cells slots) (hx : p.tables.exec = Jvm.exec) (hZ : Z.Warmed39 s.vm) (eT : T.heap = h) (F : own_A Z h a k .int n f) {j x : Int32} (i : Nat) (q : j.toInt = (i : Int)) (hi : i < n) {pc : Nat} {Ls : Array Slot} {rest : List Value} (hd : decode c.code pc = .ok (.iastore, 1)) :
    ∃ T' h', Stand p l e R s m args below meth c T' (locs ++ [⟨a, i⟩]) cells slots ∧ T'.heap = h' ∧ Wr h h' a i (.int x) ∧ ∀ t, Steps p.tables e below (T'.setTop (mkF m (pc + 1) Ls rest)) t → Steps p.tables e below (T.setTop (mkF m pc Ls (.int x :: .int j :: .ref a :: rest))) t := by
  obtain ⟨cl, A, r1, r2, r3, r4⟩ := F
  have := stI X hx hZ eT A (j := j) (x := x) (own_in q hi r2) (g := mkF m pc Ls (.int x :: .int j :: .ref a :: rest)) rfl rfl hd
  rw [own_jn q] at this; exact this
theorem own_stB (X : Stand p l e R s m args below meth c T locs cells slots) (hx : p.tables.exec = Jvm.exec) (hZ : Z.Warmed39 s.vm) (eT : T.heap = h) (F : own_A Z h a k .byte n f) {j x : Int32} (x' : Int32) (hx' : nar .byte x = x') (i : Nat) (q : j.toInt = (i : Int)) (hi : i < n) {pc : Nat} {Ls : Array Slot} {rest : List Value} (hd : decode c.code pc = .ok (.bastore, 1)) :
    ∃ T' h', Stand p l e R s m args below meth c T' (locs ++ [⟨a, i⟩]) cells slots ∧ T'.heap = h' ∧ Wr h h' a i (.int x') ∧ ∀ t, Steps p.tables e below (T'.setTop (mkF m (pc + 1) Ls rest)) t → Steps p.tables e below (T.setTop (mkF m pc Ls (.int x :: .int j :: .ref a :: rest))) t := by
  obtain ⟨cl, A, r1, r2, r3, r4⟩ := F
  have := stB X hx hZ eT A (j := j) (x := x) (own_in q hi r2) (g := mkF m pc Ls (.int x :: .int j :: .ref a :: rest)) rfl rfl hd
  rw [own_jn q] at this; subst hx'; exact this
theorem own_stC (X : Stand p l e R s m args below meth c T locs cells slots) (hx : p.tables.exec = Jvm.exec) (hZ : Z.Warmed39 s.vm) (eT : T.heap = h) (F : own_A Z h a k .char n f) {j x : Int32} (x' : Int32) (hx' : nar .char x = x') (i : Nat) (q : j.toInt = (i : Int)) (hi : i < n) {pc : Nat} {Ls : Array Slot} {rest : List Value} (hd : decode c.code pc = .ok (.castore, 1)) :
    ∃ T' h', Stand p l e R s m args below meth c T' (locs ++ [⟨a, i⟩]) cells slots ∧ T'.heap = h' ∧ Wr h h' a i (.int x') ∧ ∀ t, Steps p.tables e below (T'.setTop (mkF m (pc + 1) Ls rest)) t → Steps p.tables e below (T.setTop (mkF m pc Ls (.int x :: .int j :: .ref a :: rest))) t := by
  obtain ⟨cl, A, r1, r2, r3, r4⟩ := F
  have := stC X hx hZ eT A (j := j) (x := x) (own_in q hi r2) (g := mkF m pc Ls (.int x :: .int j :: .ref a :: rest)) rfl rfl hd
  rw [own_jn q] at this; subst hx'; exact this
theorem own_stR (X : Stand p l e R s m args below meth c T locs cells slots) (hx : p.tables.exec = Jvm.exec) (hZ : Z.Warmed39 s.vm) (eT : T.heap = h) {C : String} (F : own_A Z h a k (.object C) n f) {j : Int32} {v : Value} (O : Ovr Z k C) (I : v = .null ∨ ∃ y, v = .ref y ∧ Ins Z h y C true) (i : Nat) (q : j.toInt = (i : Int)) (hi : i < n) {pc : Nat} {Ls : Array Slot} {rest : List Value} (hd : decode c.code pc = .ok (.aastore, 1)) :
    ∃ T' h', Stand p l e R s m args below meth c T' (locs ++ [⟨a, i⟩]) cells slots ∧ T'.heap = h' ∧ Wr h h' a i v ∧ ∀ t, Steps p.tables e below (T'.setTop (mkF m (pc + 1) Ls rest)) t → Steps p.tables e below (T.setTop (mkF m pc Ls (v :: .int j :: .ref a :: rest))) t := by
  obtain ⟨cl, A, r1, r2, r3, r4⟩ := F
  have S : Sto Z h a v := by
    rcases I with rfl | ⟨y, rfl, I⟩
    · exact Or.inl rfl
    · exact Sto.ofV A r1 O I
  have := stR X hx hZ eT A (j := j) (own_in q hi r2) rfl S (g := mkF m pc Ls (v :: .int j :: .ref a :: rest)) rfl rfl hd
  rw [own_jn q] at this; exact this
theorem own_stRA (X : Stand p l e R s m args below meth c T locs cells slots) (hx : p.tables.exec = Jvm.exec) (hZ : Z.Warmed39 s.vm) (eT : T.heap = h) {C : String} {t0 : FieldType} (F : own_A Z h a k (.array t0) n f) {j : Int32} {v : Value} (O : OvrA Z k t0 C) (I : v = .null ∨ ∃ y, v = .ref y ∧ Ins Z h y C true) (i : Nat) (q : j.toInt = (i : Int)) (hi : i < n) {pc : Nat} {Ls : Array Slot} {rest : List Value} (hd : decode c.code pc = .ok (.aastore, 1)) :
    ∃ T' h', Stand p l e R s m args below meth c T' (locs ++ [⟨a, i⟩]) cells slots ∧ T'.heap = h' ∧ Wr h h' a i v ∧ ∀ t, Steps p.tables e below (T'.setTop (mkF m (pc + 1) Ls rest)) t → Steps p.tables e below (T.setTop (mkF m pc Ls (v :: .int j :: .ref a :: rest))) t := by
  obtain ⟨cl, A, r1, r2, r3, r4⟩ := F
  have S : Sto Z h a v := by
    rcases I with rfl | ⟨y, rfl, I⟩
    · exact Or.inl rfl
    · exact Sto.ofVA A r1 O I
  have := stR X hx hZ eT A (j := j) (own_in q hi r2) rfl S (g := mkF m pc Ls (v :: .int j :: .ref a :: rest)) rfl rfl hd
  rw [own_jn q] at this; exact this
theorem own_ldI (X : Stand p l e R s m args below meth c T locs cells slots) (hx : p.tables.exec = Jvm.exec) (hZ : Z.Warmed39 s.vm) (eT : T.heap = h) (F : own_A Z h a k .int n f) {j : Int32} (i : Nat) (q : j.toInt = (i : Int)) (hi : i < n) {pc : Nat} {Ls : Array Slot} {rest : List Value} (hd : decode c.code pc = .ok (.iaload, 1)) :
    ∀ t, Steps p.tables e below (T.setTop (mkF m (pc + 1) Ls (f i :: rest))) t → Steps p.tables e below (T.setTop (mkF m pc Ls (.int j :: .ref a :: rest))) t := fun t kt => by
  obtain ⟨cl, A, r1, r2, r3, r4⟩ := F
  exact X.iaload hx (j := j) (v := f i) (by rw [eT]; exact A.1) (State.isArrayOf_alike hZ.alike A.2.1) A.2.2 (own_in q hi r2) (by rw [own_jn q]; exact r4 i hi) (g := mkF m pc Ls (.int j :: .ref a :: rest)) rfl rfl hd _ kt
theorem own_ldB (X : Stand p l e R s m args below meth c T locs cells slots) (hx : p.tables.exec = Jvm.exec) (hZ : Z.Warmed39 s.vm) (eT : T.heap = h) (F : own_A Z h a k .byte n f) {j : Int32} (i : Nat) (q : j.toInt = (i : Int)) (hi : i < n) {pc : Nat} {Ls : Array Slot} {rest : List Value} (hd : decode c.code pc = .ok (.baload, 1)) :
    ∀ t, Steps p.tables e below (T.setTop (mkF m (pc + 1) Ls (f i :: rest))) t → Steps p.tables e below (T.setTop (mkF m pc Ls (.int j :: .ref a :: rest))) t := fun t kt => by
  obtain ⟨cl, A, r1, r2, r3, r4⟩ := F
  exact X.baloadBytes hx (j := j) (v := f i) (by rw [eT]; exact A.1) (State.isArrayOf_alike hZ.alike A.2.1) A.2.2 (own_in q hi r2) (by rw [own_jn q]; exact r4 i hi) (g := mkF m pc Ls (.int j :: .ref a :: rest)) rfl rfl hd _ kt
theorem own_ldC (X : Stand p l e R s m args below meth c T locs cells slots) (hx : p.tables.exec = Jvm.exec) (hZ : Z.Warmed39 s.vm) (eT : T.heap = h) (F : own_A Z h a k .char n f) {j : Int32} (i : Nat) (q : j.toInt = (i : Int)) (hi : i < n) {pc : Nat} {Ls : Array Slot} {rest : List Value} (hd : decode c.code pc = .ok (.caload, 1)) :
    ∀ t, Steps p.tables e below (T.setTop (mkF m (pc + 1) Ls (f i :: rest))) t → Steps p.tables e below (T.setTop (mkF m pc Ls (.int j :: .ref a :: rest))) t := fun t kt => by
  obtain ⟨cl, A, r1, r2, r3, r4⟩ := F
  exact X.caload hx (j := j) (v := f i) (by rw [eT]; exact A.1) (State.isArrayOf_alike hZ.alike A.2.1) A.2.2 (own_in q hi r2) (by rw [own_jn q]; exact r4 i hi) (g := mkF m pc Ls (.int j :: .ref a :: rest)) rfl rfl hd _ kt
theorem own_ldR (X : Stand p l e R s m args below meth c T locs cells slots) (hx : p.tables.exec = Jvm.exec) (hZ : Z.Warmed39 s.vm) (eT : T.heap = h) (F : own_A Z h a k ty n f) (hty : ty.isReference = true) {j : Int32} (i : Nat) (q : j.toInt = (i : Int)) (hi : i < n) {pc : Nat} {Ls : Array Slot} {rest : List Value} (hd : decode c.code pc = .ok (.aaload, 1)) :
    ∀ t, Steps p.tables e below (T.setTop (mkF m (pc + 1) Ls (f i :: rest))) t → Steps p.tables e below (T.setTop (mkF m pc Ls (.int j :: .ref a :: rest))) t := fun t kt => by
  obtain ⟨cl, A, r1, r2, r3, r4⟩ := F
  exact X.aaload hx (j := j) (v := f i) (by rw [eT]; exact A.1) (State.isArrayOf_alike hZ.alike A.2.1) hty A.2.2 (own_in q hi r2) (by rw [own_jn q]; exact r4 i hi) (g := mkF m pc Ls (.int j :: .ref a :: rest)) rfl rfl hd _ kt
theorem own_len (X : Stand p l e R s m args below meth c T locs cells slots) (hx : p.tables.exec = Jvm.exec) (hZ : Z.Warmed39 s.vm) (eT : T.heap = h) (F : own_A Z h a k ty n f) {pc : Nat} {Ls : Array Slot} {rest : List Value} (hd : decode c.code pc = .ok (.arraylength, 1)) (z : Int32) (hz : z.toInt = (n : Int)) :
    ∀ t, Steps p.tables e below (T.setTop (mkF m (pc + 1) Ls (.int z :: rest))) t → Steps p.tables e below (T.setTop (mkF m pc Ls (.ref a :: rest))) t := fun t kt => by
  obtain ⟨cl, A, r1, r2, r3, r4⟩ := F
  have q : cl.slots.size.toInt32 = z := by
    apply Int32.toInt_inj.mp; rw [r2, hz]; exact len_toInt r3
  exact X.arraylength hx (by rw [eT]; exact A.1) (State.isArrayOf_alike hZ.alike A.2.1) (g := mkF m pc Ls (.ref a :: rest)) rfl rfl hd _ (by rw [q]; exact kt)
theorem own_cat {w : Value} (h : w.isRef = true) : w.category = 1 := by cases w <;> first | rfl | cases h
theorem own_nb (x : Int32) : nar .byte x.toInt8.toInt32 = x.toInt8.toInt32 := by simp [nar]
theorem own_nc (x : Int32) : nar .char x.toUInt32.toUInt16.toUInt32.toInt32 = x.toUInt32.toUInt16.toUInt32.toInt32 := by
  have := Jvm.Free.XT.narrow_c x
  simpa [nar, narrow] using this
theorem own_nz {z : Int32} (q : z = 0 ∨ z = 1) : nar .boolean z = z := by rcases q with rfl | rfl <;> rfl
theorem own_bt {P : Prop} [Decidable P] (q : P) : ¬ ((if P then (1 : Int32) else 0) = 0) := by simp [q]
theorem own_bf {P : Prop} [Decidable P] (q : ¬ P) : (if P then (1 : Int32) else 0) = 0 := by simp [q]
theorem own_nt {P : Prop} [Decidable P] (q : P) : (if P then (0 : Int32) else 1) = 0 := by simp [q]
theorem own_nf {P : Prop} [Decidable P] (q : ¬ P) : ¬ ((if P then (0 : Int32) else 1) = 0) := by simp [q]
theorem own_lrem {target : State} (X : Stand p l e R s m args below meth c T locs cells slots) (hx : p.tables.exec = Jvm.exec) (hg : g.method = m) {x y : Int64} {rest : List Value} (hd : decode c.code g.pc = .ok (.lrem, 1)) (hs : g.stack = .long y :: .long x :: rest) (hy : y ≠ 0)
    (hr : Steps p.tables e below (T.setTop { g with pc := g.pc + 1, stack := .long (x % y) :: rest }) target) : Steps p.tables e below (T.setTop g) target := XS.lrem X.here hx hg hd hs hy (by rw [lrem_mod]; exact hr)
end OwnKit
theorem own_A.arv {Z : State} {h : Heap} {a : Addr} {k : ClassId} {n : Nat} {L : List Int32} (F : own_A Z h a k .int n (fun x => .int (L.getD x 0))) {z : Int32} (hz : z.toInt = (n : Int)) : Arv Z h a k .int z (L.map .int) (.int 0) := by
  obtain ⟨cl, A, r1, r2, r3, r4⟩ := F
  have e : ∀ i, (L.map Value.int).getD i (.int 0) = .int (L.getD i 0) := fun i => by
    simp only [List.getD_eq_getElem?_getD, List.getElem?_map]
    cases L[i]? <;> rfl
  refine ⟨cl, A, r1, by rw [r2, own_jn hz], ?_, fun i hi => by rw [r4 i (r2 ▸ hi), e], fun i hi => by rw [e]; rfl⟩
  rw [Int32.lt_iff_toInt_lt, hz]; have : (0 : Int32).toInt = 0 := rfl; omega
theorem own_cp0 {p : Program} {l : Launch} {e : Env} {R : Room} {s : State} {m : MethodId} {args : Array Value} {below : List Frame} {meth : Method} {c : Code} {T : State} {locs : List Loc} {cells slots : Nat} {Z : State} {h : Heap} {a b : Addr} (X : Stand p l e R s m args below meth c T locs cells slots) (hx : p.tables.exec = Jvm.exec) (hZ : Z.Warmed39 s.vm) {a0 : Array Value} {own : String} {index : Nat} (hown : s.vm.findClass own = some m.cls)
    (w1 : (Cond.methodLink own index Jvm.Stand.acN).before a0 Z = true) (w2 : (Cond.native Jvm.Stand.acN).before a0 Z = true) (w3 : (Cond.static Jvm.Stand.acN).before a0 Z = true) (w4 : (Cond.initialized "java/lang/System").before a0 Z = true) (eT : T.heap = h)
    {k k' : ClassId} {x : Int32} (A : own_A Z h a k .int 1 (fun y => .int (([x] : List Int32).getD y 0))) (B : own_A Z h b k' .int 0 (fun y => .int (([] : List Int32).getD y 0))) {sp : Int32} (hsp : ¬ sp < 0 ∧ sp.toNatClampNeg ≤ 1) {n0 : Nat} (N : Fr n0 locs) (ge : n0 ≤ b)
    {pc : Nat} {Ls : Array Slot} {rest : List Value} (hsize : Ls.size = c.maxLocals) (hd : decode c.code pc = .ok (.invokestatic index, 3))
    (hf : 1 ≤ R.frames) {W : Nat} (hW : (rest.map fun v => v.category).sum ≤ W) (hlo : W + (nativeFrameWords "java/lang/System" "arraycopy" 5 + 11) ≤ R.locals) :
    ∃ T' h' L, Stand p l e R s m args below meth c T' L cells slots ∧ T'.heap = h' ∧ Fr n0 L ∧ Keep h h' [b] ∧ own_A Z h' b k' .int 0 (fun y => .int (([] : List Int32).getD y 0)) ∧
      ∀ t, Steps p.tables e below (T'.setTop (mkF m (pc + 3) Ls rest)) t → Steps p.tables e below (T.setTop (mkF m pc Ls (.int 0 :: .int 0 :: .ref b :: .int sp :: .ref a :: rest))) t := by
  obtain ⟨T', h', L, X', e', N', K, V, st⟩ := cpA X hx hZ hown w1 w2 w3 w4 eT (A.arv (z := 1) (by decide)) (B.arv (z := 0) (by decide)) (sp := sp) (dp := 0) (nn := 0) (us := []) (Or.inl ⟨rfl, rfl⟩) hsp.1 (by decide) (by decide) (by show _ + 0 ≤ 1; exact hsp.2) (by decide) rfl (by decide) N ge (g := mkF m pc Ls (.int 0 :: .int 0 :: .ref b :: .int sp :: .ref a :: rest)) rfl hsize rfl hd hf (W := W) (by show 2 * 0 + _ ≤ _; omega) hlo
  refine ⟨T', h', L, X', e', N', K, ?_, st⟩
  obtain ⟨cl, A1, q1, q2, q3, q4, q5⟩ := V
  exact ⟨cl, A1, q1, q2, by decide, fun i hi => absurd hi (Nat.not_lt_zero i)⟩
theorem own_sz0 {Z : State} {args : Array Value} {t : Term} {a : Addr} {cl : Cell} {ty : FieldType} (ev : t.eval args Z none [] Z = some (.ref a)) (A : Arr Z Z.heap a cl ty) (h : (Cond.eq (.length t) (.int 0)).value args Z none Z [] = some true) : cl.slots.size = 0 := by
  obtain ⟨x, y, e1, e2, -, -⟩ := cmp_v (Or.inl h)
  simp only [Term.eval, ev, A.fin (Vm.Alike.refl _), Option.bind_eq_bind, Option.bind_some] at e1
  split at e1
  · rename_i hlt
    cases e1
    have q := gotT (Cond.eq_ints (by simp only [Term.eval, ev, A.fin (Vm.Alike.refl _), Option.bind_eq_bind, Option.bind_some, hlt, if_true]; rfl) (Term.int_eval 0)) h
    have q2 := congrArg Int32.toInt q
    rw [len_toInt (by simpa using hlt)] at q2
    have : (0 : Int32).toInt = 0 := rfl
    omega
  · cases e1
theorem own_A0 {Z : State} {h : Heap} {a : Addr} {cl : Cell} (A : Arr Z h a cl .int) (hs : cl.slots.size = 0) : own_A Z h a cl.cls .int 0 (fun x => .int (([] : List Int32).getD x 0)) := ⟨cl, A, rfl, hs, by decide, fun i hi => absurd hi (Nat.not_lt_zero i)⟩

theorem dprog_66_method_1_code_0 : decode prog_66_method_1_code 0 = .ok (.aload_n 0, 1) := by decide +kernel
theorem dprog_66_method_1_code_1 : decode prog_66_method_1_code 1 = .ok (.invokespecial 1, 3) := by decide +kernel
theorem dprog_66_method_1_code_4 : decode prog_66_method_1_code 4 = .ok (.aload_n 0, 1) := by decide +kernel
theorem dprog_66_method_1_code_5 : decode prog_66_method_1_code 5 = .ok (.aload_n 1, 1) := by decide +kernel
theorem dprog_66_method_1_code_6 : decode prog_66_method_1_code 6 = .ok (.putfield 7, 3) := by decide +kernel
theorem dprog_66_method_1_code_9 : decode prog_66_method_1_code 9 = .ok (.return_, 1) := by decide +kernel
theorem ef_rm2 (m_ : MethodId) (a : Addr) (u : Addr) : entryFrame m_ #[(.ref a), (.ref u)] 2 = mkF m_ 0 #[.val (.ref a), .val (.ref u)] [] := by first | (simp [entryFrame, mkF, argsToLocals, Value.category]; done) | rfl
theorem own_pn0 : plainName "com/example/tabmod/tabmod/tableau/DepSet" = true := by first | (simp [plainName, overriddenIn]; done) | decide +kernel
set_option maxRecDepth 65536 in
set_option maxHeartbeats 40000000 in
theorem rm2 (l : Launch) (Z : State) (a0 : Array Value) (hw : ∀ d ∈ tables_1, d.before a0 Z = true) (a : Addr) (u : Addr) (h0 : Heap) (n0 : Nat) (Z0 : n0 ≤ h0.size) (E_a : Exa Z h0 a "com/example/tabmod/tabmod/tableau/DepSet") (F_levels_a : Fld Z h0 a "com/example/tabmod/tabmod/tableau/DepSet" "levels" "[I" .null) (g_a : n0 ≤ a) :
    own_Met l Z (⟨"com/example/tabmod/tabmod/tableau/DepSet", "<init>", "([I)V"⟩ : MethodName) prog_66_method_1_code 2 none ({ frames := 1, cells := 0, slots := 0, locals := 12 } : Room) #[(.ref a), (.ref u)] h0 (fun v h L => v = none ∧ Fr n0 L ∧ Keep h0 h [a] ∧ Exa Z h a "com/example/tabmod/tabmod/tableau/DepSet" ∧ Fld Z h a "com/example/tabmod/tabmod/tableau/DepSet" "levels" "[I" (.ref u)) := by
  refine own_body #[.val (.ref a), .val (.ref u)] (plainFor_of_name own_pn0) (fun m_ => ef_rm2 m_ a u) ?_
  intro p_ e_ s_ m_ below meth c_ s₁ X0 hx hby hml hret hlk hZ hown hnm e0
  have N0 := Fr.nil n0
  have KP := Keep.refl h0 [a]
  show own_Out p_ e_ below s_ _ _ _ s₁ (mkF m_ 0 #[.val (.ref a), .val (.ref u)] [])
  refine own_st s₁ (mkF m_ 1 #[.val (.ref a), .val (.ref u)] [(.ref a)]) (fun t_ k_ => ?_) ?_
  · refine XS.aloadN X0.here hx rfl (hb hby dprog_66_method_1_code_0) rfl rfl ?_
    show Steps p_.tables e_ below (s₁.setTop (mkF m_ 1 #[.val (.ref a), .val (.ref u)] [(.ref a)])) t_
    exact k_
  obtain ⟨T1, X1, e1, st1⟩ := initO X0 hx hZ hown (hw _ (List.mem_of_getElem? (i := 10) rfl)) (hw _ (List.mem_of_getElem? (i := 11) rfl)) (hw _ (List.mem_of_getElem? (i := 12) rfl)) e0 (g := (mkF m_ 1 #[.val (.ref a), .val (.ref u)] [(.ref a)])) rfl (by rw [hml]; rfl) rfl (hb hby dprog_66_method_1_code_1) (by decide) (W := 0) (by show 2 * 0 + _ ≤ _; exact Nat.le_of_eq rfl) (by decide)
  refine own_st T1 (mkF m_ 4 #[.val (.ref a), .val (.ref u)] []) st1 ?_
  refine own_st T1 (mkF m_ 6 #[.val (.ref a), .val (.ref u)] [(.ref u), (.ref a)]) (fun t_ k_ => ?_) ?_
  · refine XS.aloadN X1.here hx rfl (hb hby dprog_66_method_1_code_4) rfl rfl ?_
    show Steps p_.tables e_ below (T1.setTop (mkF m_ 5 #[.val (.ref a), .val (.ref u)] [(.ref a)])) t_
    refine XS.aloadN X1.here hx rfl (hb hby dprog_66_method_1_code_5) rfl rfl ?_
    show Steps p_.tables e_ below (T1.setTop (mkF m_ 6 #[.val (.ref a), .val (.ref u)] [(.ref u), (.ref a)])) t_
    exact k_
  obtain ⟨T2, h2, X2, e2, W2, st2⟩ := putF X1 hx hZ hown (host := "") (Or.inl (hw _ (List.mem_of_getElem? (i := 13) rfl))) Via.refl e1 F_levels_a E_a (Or.inr ⟨(hw _ (List.mem_of_getElem? (i := 14) rfl)), rfl, hnm⟩) (hw _ (List.mem_of_getElem? (i := 5) rfl)) (ty := (.array .int)) (by decide) rfl rfl (g := (mkF m_ 6 #[.val (.ref a), .val (.ref u)] [(.ref u), (.ref a)])) rfl rfl (hb hby dprog_66_method_1_code_6)
  have N2 := Fr.snoc X2 N0 g_a
  replace Z0 : n0 ≤ h2.size := W2.size ▸ Z0
  replace KP := KP.wr W2 (Or.inl (List.mem_of_getElem? (i := 0) rfl))
  replace E_a := E_a.wr W2
  replace F_levels_a := F_levels_a.same W2
  refine own_st T2 (mkF m_ 9 #[.val (.ref a), .val (.ref u)] []) st2 ?_
  refine own_ret0 X2 hx hlk hret (hb hby dprog_66_method_1_code_9) (by decide) (by decide) ?_
  rw [e2]
  exact ⟨rfl, N2, KP, E_a, F_levels_a⟩
theorem dprog_66_method_2_code_0 : decode prog_66_method_2_code 0 = .ok (.new 8, 3) := by decide +kernel
theorem dprog_66_method_2_code_3 : decode prog_66_method_2_code 3 = .ok (.dup, 1) := by decide +kernel
theorem dprog_66_method_2_code_4 : decode prog_66_method_2_code 4 = .ok (.iconst 1, 1) := by decide +kernel
theorem dprog_66_method_2_code_5 : decode prog_66_method_2_code 5 = .ok (.newarray .int, 2) := by decide +kernel
theorem dprog_66_method_2_code_7 : decode prog_66_method_2_code 7 = .ok (.dup, 1) := by decide +kernel
theorem dprog_66_method_2_code_8 : decode prog_66_method_2_code 8 = .ok (.iconst 0, 1) := by decide +kernel
theorem dprog_66_method_2_code_9 : decode prog_66_method_2_code 9 = .ok (.iload_n 0, 1) := by decide +kernel
theorem dprog_66_method_2_code_10 : decode prog_66_method_2_code 10 = .ok (.iastore, 1) := by decide +kernel
theorem own_pd0 : parseMethodDescriptor "([I)V" = some ⟨[(.array .int)], none⟩ := by decide +kernel
theorem dprog_66_method_2_code_11 : decode prog_66_method_2_code 11 = .ok (.invokespecial 13, 3) := by decide +kernel
theorem dprog_66_method_2_code_14 : decode prog_66_method_2_code 14 = .ok (.areturn, 1) := by decide +kernel
theorem ef_rm1 (m_ : MethodId) (x : Int32) : entryFrame m_ #[(.int x)] 1 = mkF m_ 0 #[.val (.int x)] [] := by first | (simp [entryFrame, mkF, argsToLocals, Value.category]; done) | rfl
set_option maxRecDepth 65536 in
set_option maxHeartbeats 40000000 in
theorem rm1 (l : Launch) (Z : State) (a0 : Array Value) (hw : ∀ d ∈ tables_1, d.before a0 Z = true) (x : Int32) (h0 : Heap) (n0 : Nat) (Z0 : n0 ≤ h0.size)  :
    own_Met l Z (⟨"com/example/tabmod/tabmod/tableau/DepSet", "of", "(I)Lcom/example/tabmod/tabmod/tableau/DepSet;"⟩ : MethodName) prog_66_method_2_code 1 (some (.object "com/example/tabmod/tabmod/tableau/DepSet")) ({ frames := 2, cells := 2, slots := 2, locals := 26 } : Room) #[(.int x)] h0 (fun v h L => ∃ (b t : Addr) (kt : ClassId), v = some (.ref b) ∧ n0 ≤ b ∧ n0 ≤ t ∧ Fr n0 L ∧ Keep h0 h [] ∧ Exa Z h b "com/example/tabmod/tabmod/tableau/DepSet" ∧ Fld Z h b "com/example/tabmod/tabmod/tableau/DepSet" "levels" "[I" (.ref t) ∧ own_A Z h t kt .int 1 (fun x_ => .int (([x] : List Int32).getD x_ 0))) := by
  refine own_body #[.val (.int x)] (plainFor_of_name own_pn0) (fun m_ => ef_rm1 m_ x) ?_
  intro p_ e_ s_ m_ below meth c_ s₁ X0 hx hby hml hret hlk hZ hown hnm e0
  have N0 := Fr.nil n0
  have KP := Keep.refl h0 []
  show own_Out p_ e_ below s_ _ _ _ s₁ (mkF m_ 0 #[.val (.int x)] [])
  obtain ⟨T1, h1, X1, e1, E1, A1, D1, -, st1⟩ := newO X0 hx hZ hown (hw _ (List.mem_of_getElem? (i := 4) rfl)) (hw _ (List.mem_of_getElem? (i := 5) rfl)) (hw _ (List.mem_of_getElem? (i := 2) rfl)) e0 (g := (mkF m_ 0 #[.val (.int x)] [])) rfl (hb hby dprog_66_method_2_code_0) (by decide) (by decide)
  obtain ⟨b1, g1⟩ : ∃ z, z = h0.size := ⟨_, rfl⟩
  rw [← g1] at A1 D1 st1
  have g_b1 : n0 ≤ b1 := g1 ▸ Z0
  have sz_b1 : h0.size ≤ b1 := g1 ▸ KP.1
  replace KP := KP.ext E1
  replace Z0 : n0 ≤ h1.size := Nat.le_trans Z0 E1.1
  have F_levels_b1 : Fld Z h1 b1 "com/example/tabmod/tabmod/tableau/DepSet" "levels" "[I" .null := D1 (Or.inr (hw _ (List.mem_of_getElem? (i := 14) rfl))) (ty := (.array .int)) (by decide)
  have E_b1 := A1
  refine own_st T1 (mkF m_ 3 #[.val (.int x)] [(.ref b1)]) st1 ?_
  refine own_st T1 (mkF m_ 5 #[.val (.int x)] [(.int (1 : Int32)), (.ref b1), (.ref b1)]) (fun t_ k_ => ?_) ?_
  · refine XS.dup X1.here hx rfl (hb hby dprog_66_method_2_code_3) rfl rfl ?_
    show Steps p_.tables e_ below (T1.setTop (mkF m_ 4 #[.val (.int x)] [(.ref b1), (.ref b1)])) t_
    refine XS.iconst X1.here hx rfl (hb hby dprog_66_method_2_code_4) ?_
    show Steps p_.tables e_ below (T1.setTop (mkF m_ 5 #[.val (.int x)] [(.int (1 : Int32)), (.ref b1), (.ref b1)])) t_
    exact k_
  obtain ⟨T2, h2, k2, X2, e2, E2, A2, st2⟩ := newP X1 hx hZ (hw _ (List.mem_of_getElem? (i := 6) rfl)) e1 (g := (mkF m_ 5 #[.val (.int x)] [(.int (1 : Int32)), (.ref b1), (.ref b1)])) rfl (hb hby dprog_66_method_2_code_5) rfl (by decide) (cap := 1) (by decide) (by decide) (by decide) (by decide)
  obtain ⟨b2, g2⟩ : ∃ z, z = h1.size := ⟨_, rfl⟩
  rw [← g2] at A2 st2
  have g_b2 : n0 ≤ b2 := g2 ▸ Z0
  have sz_b2 : h0.size ≤ b2 := g2 ▸ KP.1
  have ne_b1_b2 : b1 ≠ b2 := Nat.ne_of_lt (Nat.lt_of_lt_of_le F_levels_b1.lt (Nat.le_of_eq g2.symm))
  replace KP := KP.ext E2
  replace F_levels_b1 := F_levels_b1.ext E2
  replace E_b1 := E_b1.ext E2
  replace Z0 : n0 ≤ h2.size := Nat.le_trans Z0 E2.1
  have A_b2 : own_A Z h2 b2 k2 .int 1 (fun x_ => .int (([(0 : Int32)] : List Int32).getD x_ 0)) := own_A.newLI A2 (by decide) 1 (by decide) rfl
  refine own_st T2 (mkF m_ 7 #[.val (.int x)] [(.ref b2), (.ref b1), (.ref b1)]) st2 ?_
  refine own_st T2 (mkF m_ 10 #[.val (.int x)] [(.int x), (.int (0 : Int32)), (.ref b2), (.ref b2), (.ref b1), (.ref b1)]) (fun t_ k_ => ?_) ?_
  · refine XS.dup X2.here hx rfl (hb hby dprog_66_method_2_code_7) rfl rfl ?_
    show Steps p_.tables e_ below (T2.setTop (mkF m_ 8 #[.val (.int x)] [(.ref b2), (.ref b2), (.ref b1), (.ref b1)])) t_
    refine XS.iconst X2.here hx rfl (hb hby dprog_66_method_2_code_8) ?_
    show Steps p_.tables e_ below (T2.setTop (mkF m_ 9 #[.val (.int x)] [(.int (0 : Int32)), (.ref b2), (.ref b2), (.ref b1), (.ref b1)])) t_
    refine XS.iloadN X2.here hx rfl (hb hby dprog_66_method_2_code_9) rfl ?_
    show Steps p_.tables e_ below (T2.setTop (mkF m_ 10 #[.val (.int x)] [(.int x), (.int (0 : Int32)), (.ref b2), (.ref b2), (.ref b1), (.ref b1)])) t_
    exact k_
  obtain ⟨T3, h3, X3, e3, W3, st3⟩ := own_stI X2 hx hZ e2 A_b2 0 (by decide) (by decide) (j := (0 : Int32)) (x := x) (Ls := #[.val (.int x)]) (rest := [(.ref b2), (.ref b1), (.ref b1)]) (hb hby dprog_66_method_2_code_10)
  have N3 := Fr.snoc X3 N0 g_b2
  replace Z0 : n0 ≤ h3.size := W3.size ▸ Z0
  replace KP := KP.wr W3 (Or.inr sz_b2)
  replace F_levels_b1 := F_levels_b1.other W3 (Or.inl ne_b1_b2)
  replace E_b1 := E_b1.wr W3
  replace A_b2 : own_A Z h3 b2 k2 .int 1 (fun x_ => .int (([x] : List Int32).getD x_ 0)) := A_b2.setLI (by decide) (Nat.le_of_ble_eq_true rfl) W3
  refine own_st T3 (mkF m_ 11 #[.val (.int x)] [(.ref b2), (.ref b1), (.ref b1)]) st3 ?_
  refine own_callC X3 hx hZ rfl hown (hw _ (List.mem_of_getElem? (i := 7) rfl)) (hw _ (List.mem_of_getElem? (i := 8) rfl)) (hw _ (List.mem_of_getElem? (i := 2) rfl)) (hw _ (List.mem_of_getElem? (i := 9) rfl)) (by decide) b1 [(.ref b2)] [(.ref b1)] (rm2 l Z a0 hw b1 b2 h3 n0 Z0 E_b1 F_levels_b1 g_b1) 1 (by decide) (by decide) e3 (by rw [hml]; rfl) (lenOf own_pd0 rfl) rfl (Nat.le_of_eq rfl) (hb hby dprog_66_method_2_code_11) (by decide) (by decide) ?_
  intro v4 T4 L4 X4 q4
  obtain ⟨rfl, N4q, K4, Eq4, Fq4_levels⟩ := q4
  have N4 := Fr.app N3 N4q
  replace KP := KP.trans K4 (allS (Or.inr sz_b1) all0)
  -- F_levels_b1 is dropped: written by the callee
  replace E_b1 := E_b1.keep K4
  replace A_b2 := A_b2.keep K4 (ninS (Ne.symm ne_b1_b2) nin0)
  replace Z0 : n0 ≤ T4.heap.size := Nat.le_trans Z0 K4.1
  have F_levels_b1 := Fq4_levels
  show own_Out p_ e_ below s_ _ _ _ T4 (mkF m_ 14 #[.val (.int x)] [(.ref b1)])
  refine own_retA X4 hx hlk hret rfl rfl (hb hby dprog_66_method_2_code_14) (by decide) (by decide) ?_
  exact ⟨b1, b2, _, rfl, g_b1, g_b2, N4, KP, E_b1, F_levels_b1, A_b2⟩
theorem dprog_66_method_3_code_0 : decode prog_66_method_3_code 0 = .ok (.aload_n 0, 1) := by decide +kernel
theorem dprog_66_method_3_code_1 : decode prog_66_method_3_code 1 = .ok (.getfield 7, 3) := by decide +kernel
theorem dprog_66_method_3_code_4 : decode prog_66_method_3_code 4 = .ok (.arraylength, 1) := by decide +kernel
theorem dprog_66_method_3_code_5 : decode prog_66_method_3_code 5 = .ok (.ifCond .ne 7, 3) := by decide +kernel
theorem dprog_66_method_3_code_12 : decode prog_66_method_3_code 12 = .ok (.iconst 0, 1) := by decide +kernel
theorem dprog_66_method_3_code_13 : decode prog_66_method_3_code 13 = .ok (.ireturn, 1) := by decide +kernel
theorem ef_rm4 (m_ : MethodId) (a : Addr) : entryFrame m_ #[(.ref a)] 1 = mkF m_ 0 #[.val (.ref a)] [] := by first | (simp [entryFrame, mkF, argsToLocals, Value.category]; done) | rfl
set_option maxRecDepth 65536 in
set_option maxHeartbeats 40000000 in
theorem rm4 (l : Launch) (Z : State) (a0 : Array Value) (hw : ∀ d ∈ tables_1, d.before a0 Z = true) (a : Addr) (u : Addr) (ku : ClassId) (x : Int32) (h0 : Heap) (n0 : Nat) (Z0 : n0 ≤ h0.size) (F_levels_a : Fld Z h0 a "com/example/tabmod/tabmod/tableau/DepSet" "levels" "[I" (.ref u)) (A_u : own_A Z h0 u ku .int 1 (fun x_ => .int (([x] : List Int32).getD x_ 0))) :
    own_Met l Z (⟨"com/example/tabmod/tabmod/tableau/DepSet", "isEmpty", "()Z"⟩ : MethodName) prog_66_method_3_code 1 (some .boolean) ({ frames := 0, cells := 0, slots := 0, locals := 0 } : Room) #[(.ref a)] h0 (fun v h L => v = some (.int 0) ∧ Fr n0 L ∧ h = h0) := by
  refine own_body #[.val (.ref a)] (plainFor_of_name own_pn0) (fun m_ => ef_rm4 m_ a) ?_
  intro p_ e_ s_ m_ below meth c_ s₁ X0 hx hby hml hret hlk hZ hown hnm e0
  have N0 := Fr.nil n0
  show own_Out p_ e_ below s_ _ _ _ s₁ (mkF m_ 0 #[.val (.ref a)] [])
  refine own_st s₁ (mkF m_ 1 #[.val (.ref a)] [(.ref a)]) (fun t_ k_ => ?_) ?_
  · refine XS.aloadN X0.here hx rfl (hb hby dprog_66_method_3_code_0) rfl rfl ?_
    show Steps p_.tables e_ below (s₁.setTop (mkF m_ 1 #[.val (.ref a)] [(.ref a)])) t_
    exact k_
  obtain ⟨T1, X1, e1, st1⟩ := getF X0 hx hZ hown (host := "") (Or.inl (hw _ (List.mem_of_getElem? (i := 13) rfl))) Via.refl e0 F_levels_a (g := (mkF m_ 1 #[.val (.ref a)] [(.ref a)])) rfl rfl (hb hby dprog_66_method_3_code_1)
  refine own_st T1 (mkF m_ 4 #[.val (.ref a)] [(.ref u)]) st1 ?_
  refine own_st T1 (mkF m_ 13 #[.val (.ref a)] [(.int (0 : Int32))]) (fun t_ k_ => ?_) ?_
  · refine own_len X1 hx hZ e1 A_u (hb hby dprog_66_method_3_code_4) (1 : Int32) (by decide) _ ?_
    show Steps p_.tables e_ below (T1.setTop (mkF m_ 5 #[.val (.ref a)] [(.int (1 : Int32))])) t_
    refine XS.ifYes X1.here hx rfl (pc0 := 5) (pc' := 12) rfl (hb hby dprog_66_method_3_code_5) rfl ((if0 _ _).trans (feq (by decide : ¬ ((1 : Int32) = (0 : Int32)))).2) (by decide) (by decide) ?_
    show Steps p_.tables e_ below (T1.setTop (mkF m_ 12 #[.val (.ref a)] [])) t_
    refine XS.iconst X1.here hx rfl (hb hby dprog_66_method_3_code_12) ?_
    show Steps p_.tables e_ below (T1.setTop (mkF m_ 13 #[.val (.ref a)] [(.int (0 : Int32))])) t_
    exact k_
  refine own_retN X1 hx hlk (t := .boolean) hret (by simp) (hb hby dprog_66_method_3_code_13) (by decide) (by decide) ?_
  rw [e1]
  exact ⟨rfl, N0, rfl⟩
theorem dprog_66_method_3_code_8 : decode prog_66_method_3_code 8 = .ok (.iconst 1, 1) := by decide +kernel
theorem dprog_66_method_3_code_9 : decode prog_66_method_3_code 9 = .ok (.goto 4, 3) := by decide +kernel
theorem ef_rm4e (m_ : MethodId) (a : Addr) : entryFrame m_ #[(.ref a)] 1 = mkF m_ 0 #[.val (.ref a)] [] := by first | (simp [entryFrame, mkF, argsToLocals, Value.category]; done) | rfl
set_option maxRecDepth 65536 in
set_option maxHeartbeats 40000000 in
theorem rm4e (l : Launch) (Z : State) (a0 : Array Value) (hw : ∀ d ∈ tables_1, d.before a0 Z = true) (a : Addr) (u : Addr) (ku : ClassId) (h0 : Heap) (n0 : Nat) (Z0 : n0 ≤ h0.size) (F_levels_a : Fld Z h0 a "com/example/tabmod/tabmod/tableau/DepSet" "levels" "[I" (.ref u)) (A_u : own_A Z h0 u ku .int 0 (fun x_ => .int (([] : List Int32).getD x_ 0))) :
    own_Met l Z (⟨"com/example/tabmod/tabmod/tableau/DepSet", "isEmpty", "()Z"⟩ : MethodName) prog_66_method_3_code 1 (some .boolean) ({ frames := 0, cells := 0, slots := 0, locals := 0 } : Room) #[(.ref a)] h0 (fun v h L => v = some (.int 1) ∧ Fr n0 L ∧ h = h0) := by
  refine own_body #[.val (.ref a)] (plainFor_of_name own_pn0) (fun m_ => ef_rm4e m_ a) ?_
  intro p_ e_ s_ m_ below meth c_ s₁ X0 hx hby hml hret hlk hZ hown hnm e0
  have N0 := Fr.nil n0
  show own_Out p_ e_ below s_ _ _ _ s₁ (mkF m_ 0 #[.val (.ref a)] [])
  refine own_st s₁ (mkF m_ 1 #[.val (.ref a)] [(.ref a)]) (fun t_ k_ => ?_) ?_
  · refine XS.aloadN X0.here hx rfl (hb hby dprog_66_method_3_code_0) rfl rfl ?_
    show Steps p_.tables e_ below (s₁.setTop (mkF m_ 1 #[.val (.ref a)] [(.ref a)])) t_
    exact k_
  obtain ⟨T1, X1, e1, st1⟩ := getF X0 hx hZ hown (host := "") (Or.inl (hw _ (List.mem_of_getElem? (i := 13) rfl))) Via.refl e0 F_levels_a (g := (mkF m_ 1 #[.val (.ref a)] [(.ref a)])) rfl rfl (hb hby dprog_66_method_3_code_1)
  refine own_st T1 (mkF m_ 4 #[.val (.ref a)] [(.ref u)]) st1 ?_
  refine own_st T1 (mkF m_ 13 #[.val (.ref a)] [(.int (1 : Int32))]) (fun t_ k_ => ?_) ?_
  · refine own_len X1 hx hZ e1 A_u (hb hby dprog_66_method_3_code_4) (0 : Int32) (by decide) _ ?_
    show Steps p_.tables e_ below (T1.setTop (mkF m_ 5 #[.val (.ref a)] [(.int (0 : Int32))])) t_
    refine XS.ifNo X1.here hx rfl (hb hby dprog_66_method_3_code_5) rfl ((if0 _ _).trans (teq (by decide : (0 : Int32) = (0 : Int32))).2) ?_
    show Steps p_.tables e_ below (T1.setTop (mkF m_ 8 #[.val (.ref a)] [])) t_
    refine XS.iconst X1.here hx rfl (hb hby dprog_66_method_3_code_8) ?_
    show Steps p_.tables e_ below (T1.setTop (mkF m_ 9 #[.val (.ref a)] [(.int (1 : Int32))])) t_
    refine XS.goto X1.here hx rfl (pc0 := 9) (pc' := 13) rfl (hb hby dprog_66_method_3_code_9) (by decide) (by decide) ?_
    show Steps p_.tables e_ below (T1.setTop (mkF m_ 13 #[.val (.ref a)] [(.int (1 : Int32))])) t_
    exact k_
  refine own_retN X1 hx hlk (t := .boolean) hret (by simp) (hb hby dprog_66_method_3_code_13) (by decide) (by decide) ?_
  rw [e1]
  exact ⟨rfl, N0, rfl⟩
theorem dprog_66_method_4_code_0 : decode prog_66_method_4_code 0 = .ok (.aload_n 0, 1) := by decide +kernel
theorem dprog_66_method_4_code_1 : decode prog_66_method_4_code 1 = .ok (.getfield 7, 3) := by decide +kernel
theorem dprog_66_method_4_code_4 : decode prog_66_method_4_code 4 = .ok (.aload_n 0, 1) := by decide +kernel
theorem dprog_66_method_4_code_5 : decode prog_66_method_4_code 5 = .ok (.getfield 7, 3) := by decide +kernel
theorem dprog_66_method_4_code_8 : decode prog_66_method_4_code 8 = .ok (.arraylength, 1) := by decide +kernel
theorem dprog_66_method_4_code_9 : decode prog_66_method_4_code 9 = .ok (.iconst 1, 1) := by decide +kernel
theorem dprog_66_method_4_code_10 : decode prog_66_method_4_code 10 = .ok (.isub, 1) := by decide +kernel
theorem dprog_66_method_4_code_11 : decode prog_66_method_4_code 11 = .ok (.iaload, 1) := by decide +kernel
theorem dprog_66_method_4_code_12 : decode prog_66_method_4_code 12 = .ok (.ireturn, 1) := by decide +kernel
theorem ef_rm5 (m_ : MethodId) (a : Addr) : entryFrame m_ #[(.ref a)] 1 = mkF m_ 0 #[.val (.ref a)] [] := by first | (simp [entryFrame, mkF, argsToLocals, Value.category]; done) | rfl
set_option maxRecDepth 65536 in
set_option maxHeartbeats 40000000 in
theorem rm5 (l : Launch) (Z : State) (a0 : Array Value) (hw : ∀ d ∈ tables_1, d.before a0 Z = true) (a : Addr) (u : Addr) (ku : ClassId) (x : Int32) (h0 : Heap) (n0 : Nat) (Z0 : n0 ≤ h0.size) (F_levels_a : Fld Z h0 a "com/example/tabmod/tabmod/tableau/DepSet" "levels" "[I" (.ref u)) (A_u : own_A Z h0 u ku .int 1 (fun x_ => .int (([x] : List Int32).getD x_ 0))) :
    own_Met l Z (⟨"com/example/tabmod/tabmod/tableau/DepSet", "max", "()I"⟩ : MethodName) prog_66_method_4_code 1 (some .int) ({ frames := 0, cells := 0, slots := 0, locals := 0 } : Room) #[(.ref a)] h0 (fun v h L => v = some (.int x) ∧ Fr n0 L ∧ h = h0) := by
  refine own_body #[.val (.ref a)] (plainFor_of_name own_pn0) (fun m_ => ef_rm5 m_ a) ?_
  intro p_ e_ s_ m_ below meth c_ s₁ X0 hx hby hml hret hlk hZ hown hnm e0
  have N0 := Fr.nil n0
  show own_Out p_ e_ below s_ _ _ _ s₁ (mkF m_ 0 #[.val (.ref a)] [])
  refine own_st s₁ (mkF m_ 1 #[.val (.ref a)] [(.ref a)]) (fun t_ k_ => ?_) ?_
  · refine XS.aloadN X0.here hx rfl (hb hby dprog_66_method_4_code_0) rfl rfl ?_
    show Steps p_.tables e_ below (s₁.setTop (mkF m_ 1 #[.val (.ref a)] [(.ref a)])) t_
    exact k_
  obtain ⟨T1, X1, e1, st1⟩ := getF X0 hx hZ hown (host := "") (Or.inl (hw _ (List.mem_of_getElem? (i := 13) rfl))) Via.refl e0 F_levels_a (g := (mkF m_ 1 #[.val (.ref a)] [(.ref a)])) rfl rfl (hb hby dprog_66_method_4_code_1)
  refine own_st T1 (mkF m_ 4 #[.val (.ref a)] [(.ref u)]) st1 ?_
  refine own_st T1 (mkF m_ 5 #[.val (.ref a)] [(.ref a), (.ref u)]) (fun t_ k_ => ?_) ?_
  · refine XS.aloadN X1.here hx rfl (hb hby dprog_66_method_4_code_4) rfl rfl ?_
    show Steps p_.tables e_ below (T1.setTop (mkF m_ 5 #[.val (.ref a)] [(.ref a), (.ref u)])) t_
    exact k_
  obtain ⟨T2, X2, e2, st2⟩ := getF X1 hx hZ hown (host := "") (Or.inl (hw _ (List.mem_of_getElem? (i := 13) rfl))) Via.refl e1 F_levels_a (g := (mkF m_ 5 #[.val (.ref a)] [(.ref a), (.ref u)])) rfl rfl (hb hby dprog_66_method_4_code_5)
  refine own_st T2 (mkF m_ 8 #[.val (.ref a)] [(.ref u), (.ref u)]) st2 ?_
  refine own_st T2 (mkF m_ 12 #[.val (.ref a)] [(.int x)]) (fun t_ k_ => ?_) ?_
  · refine own_len X2 hx hZ e2 A_u (hb hby dprog_66_method_4_code_8) (1 : Int32) (by decide) _ ?_
    show Steps p_.tables e_ below (T2.setTop (mkF m_ 9 #[.val (.ref a)] [(.int (1 : Int32)), (.ref u)])) t_
    refine XS.iconst X2.here hx rfl (hb hby dprog_66_method_4_code_9) ?_
    show Steps p_.tables e_ below (T2.setTop (mkF m_ 10 #[.val (.ref a)] [(.int (1 : Int32)), (.int (1 : Int32)), (.ref u)])) t_
    refine XS.isub X2.here hx rfl (hb hby dprog_66_method_4_code_10) rfl ?_
    show Steps p_.tables e_ below (T2.setTop (mkF m_ 11 #[.val (.ref a)] [(.int (0 : Int32)), (.ref u)])) t_
    refine own_ldI X2 hx hZ e2 A_u 0 (by decide) (by decide) (hb hby dprog_66_method_4_code_11) _ ?_
    show Steps p_.tables e_ below (T2.setTop (mkF m_ 12 #[.val (.ref a)] [(.int x)])) t_
    exact k_
  refine own_retI X2 hx hlk hret (hb hby dprog_66_method_4_code_12) (by decide) (by decide) ?_
  rw [e2]
  exact ⟨rfl, N0, rfl⟩
def f6 (x y : Int32) : Int32 := if y < x then 0 else if y = x then 1 else 0
theorem dprog_66_method_6_code_0 : decode prog_66_method_6_code 0 = .ok (.iconst 0, 1) := by decide +kernel
theorem dprog_66_method_6_code_1 : decode prog_66_method_6_code 1 = .ok (.istore_n 2, 1) := by decide +kernel
theorem dprog_66_method_6_code_2 : decode prog_66_method_6_code 2 = .ok (.aload_n 0, 1) := by decide +kernel
theorem dprog_66_method_6_code_3 : decode prog_66_method_6_code 3 = .ok (.getfield 7, 3) := by decide +kernel
theorem dprog_66_method_6_code_6 : decode prog_66_method_6_code 6 = .ok (.astore_n 3, 1) := by decide +kernel
theorem dprog_66_method_6_code_7 : decode prog_66_method_6_code 7 = .ok (.aload_n 3, 1) := by decide +kernel
theorem dprog_66_method_6_code_8 : decode prog_66_method_6_code 8 = .ok (.arraylength, 1) := by decide +kernel
theorem dprog_66_method_6_code_9 : decode prog_66_method_6_code 9 = .ok (.istore 4, 2) := by decide +kernel
theorem dprog_66_method_6_code_11 : decode prog_66_method_6_code 11 = .ok (.iconst 0, 1) := by decide +kernel
theorem dprog_66_method_6_code_12 : decode prog_66_method_6_code 12 = .ok (.istore 5, 2) := by decide +kernel
theorem dprog_66_method_6_code_14 : decode prog_66_method_6_code 14 = .ok (.iload 5, 2) := by decide +kernel
theorem dprog_66_method_6_code_16 : decode prog_66_method_6_code 16 = .ok (.iload 4, 2) := by decide +kernel
theorem dprog_66_method_6_code_18 : decode prog_66_method_6_code 18 = .ok (.if_icmp .ge 63, 3) := by decide +kernel
theorem dprog_66_method_6_code_21 : decode prog_66_method_6_code 21 = .ok (.aload_n 3, 1) := by decide +kernel
theorem dprog_66_method_6_code_22 : decode prog_66_method_6_code 22 = .ok (.iload 5, 2) := by decide +kernel
theorem dprog_66_method_6_code_24 : decode prog_66_method_6_code 24 = .ok (.iaload, 1) := by decide +kernel
theorem dprog_66_method_6_code_25 : decode prog_66_method_6_code 25 = .ok (.istore 6, 2) := by decide +kernel
theorem dprog_66_method_6_code_27 : decode prog_66_method_6_code 27 = .ok (.iload_n 2, 1) := by decide +kernel
theorem dprog_66_method_6_code_28 : decode prog_66_method_6_code 28 = .ok (.aload_n 1, 1) := by decide +kernel
theorem dprog_66_method_6_code_29 : decode prog_66_method_6_code 29 = .ok (.getfield 7, 3) := by decide +kernel
theorem dprog_66_method_6_code_32 : decode prog_66_method_6_code 32 = .ok (.arraylength, 1) := by decide +kernel
theorem dprog_66_method_6_code_33 : decode prog_66_method_6_code 33 = .ok (.if_icmp .ge 20, 3) := by decide +kernel
theorem dprog_66_method_6_code_36 : decode prog_66_method_6_code 36 = .ok (.aload_n 1, 1) := by decide +kernel
theorem dprog_66_method_6_code_37 : decode prog_66_method_6_code 37 = .ok (.getfield 7, 3) := by decide +kernel
theorem dprog_66_method_6_code_40 : decode prog_66_method_6_code 40 = .ok (.iload_n 2, 1) := by decide +kernel
theorem dprog_66_method_6_code_41 : decode prog_66_method_6_code 41 = .ok (.iaload, 1) := by decide +kernel
theorem dprog_66_method_6_code_42 : decode prog_66_method_6_code 42 = .ok (.iload 6, 2) := by decide +kernel
theorem dprog_66_method_6_code_44 : decode prog_66_method_6_code 44 = .ok (.if_icmp .ge 9, 3) := by decide +kernel
theorem dprog_66_method_6_code_47 : decode prog_66_method_6_code 47 = .ok (.iinc 2 1, 3) := by decide +kernel
theorem dprog_66_method_6_code_50 : decode prog_66_method_6_code 50 = .ok (.goto (-23), 3) := by decide +kernel
theorem dprog_66_method_6_code_53 : decode prog_66_method_6_code 53 = .ok (.iload_n 2, 1) := by decide +kernel
theorem dprog_66_method_6_code_54 : decode prog_66_method_6_code 54 = .ok (.aload_n 1, 1) := by decide +kernel
theorem dprog_66_method_6_code_55 : decode prog_66_method_6_code 55 = .ok (.getfield 7, 3) := by decide +kernel
theorem dprog_66_method_6_code_58 : decode prog_66_method_6_code 58 = .ok (.arraylength, 1) := by decide +kernel
theorem dprog_66_method_6_code_59 : decode prog_66_method_6_code 59 = .ok (.if_icmp .eq 14, 3) := by decide +kernel
theorem dprog_66_method_6_code_73 : decode prog_66_method_6_code 73 = .ok (.iconst 0, 1) := by decide +kernel
theorem dprog_66_method_6_code_74 : decode prog_66_method_6_code 74 = .ok (.ireturn, 1) := by decide +kernel
theorem dprog_66_method_6_code_62 : decode prog_66_method_6_code 62 = .ok (.aload_n 1, 1) := by decide +kernel
theorem dprog_66_method_6_code_63 : decode prog_66_method_6_code 63 = .ok (.getfield 7, 3) := by decide +kernel
theorem dprog_66_method_6_code_66 : decode prog_66_method_6_code 66 = .ok (.iload_n 2, 1) := by decide +kernel
theorem dprog_66_method_6_code_67 : decode prog_66_method_6_code 67 = .ok (.iaload, 1) := by decide +kernel
theorem dprog_66_method_6_code_68 : decode prog_66_method_6_code 68 = .ok (.iload 6, 2) := by decide +kernel
theorem dprog_66_method_6_code_70 : decode prog_66_method_6_code 70 = .ok (.if_icmp .eq 5, 3) := by decide +kernel
theorem dprog_66_method_6_code_75 : decode prog_66_method_6_code 75 = .ok (.iinc 5 1, 3) := by decide +kernel
theorem dprog_66_method_6_code_78 : decode prog_66_method_6_code 78 = .ok (.goto (-64), 3) := by decide +kernel
theorem dprog_66_method_6_code_81 : decode prog_66_method_6_code 81 = .ok (.iconst 1, 1) := by decide +kernel
theorem dprog_66_method_6_code_82 : decode prog_66_method_6_code 82 = .ok (.ireturn, 1) := by decide +kernel
theorem ef_rm6 (m_ : MethodId) (a : Addr) (o : Addr) : entryFrame m_ #[(.ref a), (.ref o)] 7 = mkF m_ 0 #[.val (.ref a), .val (.ref o), .unset, .unset, .unset, .unset, .unset] [] := by first | (simp [entryFrame, mkF, argsToLocals, Value.category]; done) | rfl
set_option maxRecDepth 65536 in
set_option maxHeartbeats 40000000 in
theorem rm6 (l : Launch) (Z : State) (a0 : Array Value) (hw : ∀ d ∈ tables_1, d.before a0 Z = true) (a : Addr) (o : Addr) (u w : Addr) (ku kw : ClassId) (x y : Int32) (h0 : Heap) (n0 : Nat) (Z0 : n0 ≤ h0.size) (F_levels_a : Fld Z h0 a "com/example/tabmod/tabmod/tableau/DepSet" "levels" "[I" (.ref u)) (A_u : own_A Z h0 u ku .int 1 (fun x_ => .int (([x] : List Int32).getD x_ 0))) (F_levels_o : Fld Z h0 o "com/example/tabmod/tabmod/tableau/DepSet" "levels" "[I" (.ref w)) (A_w : own_A Z h0 w kw .int 1 (fun x_ => .int (([y] : List Int32).getD x_ 0))) :
    own_Met l Z (⟨"com/example/tabmod/tabmod/tableau/DepSet", "within", "(Lcom/example/tabmod/tabmod/tableau/DepSet;)Z"⟩ : MethodName) prog_66_method_6_code 7 (some .boolean) ({ frames := 0, cells := 0, slots := 0, locals := 0 } : Room) #[(.ref a), (.ref o)] h0 (fun v h L => v = some (.int (f6 x y)) ∧ Fr n0 L ∧ h = h0) := by
  refine own_body #[.val (.ref a), .val (.ref o), .unset, .unset, .unset, .unset, .unset] (plainFor_of_name own_pn0) (fun m_ => ef_rm6 m_ a o) ?_
  intro p_ e_ s_ m_ below meth c_ s₁ X0 hx hby hml hret hlk hZ hown hnm e0
  have N0 := Fr.nil n0
  show own_Out p_ e_ below s_ _ _ _ s₁ (mkF m_ 0 #[.val (.ref a), .val (.ref o), .unset, .unset, .unset, .unset, .unset] [])
  refine own_st s₁ (mkF m_ 3 #[.val (.ref a), .val (.ref o), .val (.int (0 : Int32)), .unset, .unset, .unset, .unset] [(.ref a)]) (fun t_ k_ => ?_) ?_
  · refine XS.iconst X0.here hx rfl (hb hby dprog_66_method_6_code_0) ?_
    show Steps p_.tables e_ below (s₁.setTop (mkF m_ 1 #[.val (.ref a), .val (.ref o), .unset, .unset, .unset, .unset, .unset] [(.int (0 : Int32))])) t_
    refine XS.istoreN X0.here hx rfl (hb hby dprog_66_method_6_code_1) rfl (l' := #[.val (.ref a), .val (.ref o), .val (.int (0 : Int32)), .unset, .unset, .unset, .unset]) rfl ?_
    show Steps p_.tables e_ below (s₁.setTop (mkF m_ 2 #[.val (.ref a), .val (.ref o), .val (.int (0 : Int32)), .unset, .unset, .unset, .unset] [])) t_
    refine XS.aloadN X0.here hx rfl (hb hby dprog_66_method_6_code_2) rfl rfl ?_
    show Steps p_.tables e_ below (s₁.setTop (mkF m_ 3 #[.val (.ref a), .val (.ref o), .val (.int (0 : Int32)), .unset, .unset, .unset, .unset] [(.ref a)])) t_
    exact k_
  obtain ⟨T1, X1, e1, st1⟩ := getF X0 hx hZ hown (host := "") (Or.inl (hw _ (List.mem_of_getElem? (i := 13) rfl))) Via.refl e0 F_levels_a (g := (mkF m_ 3 #[.val (.ref a), .val (.ref o), .val (.int (0 : Int32)), .unset, .unset, .unset, .unset] [(.ref a)])) rfl rfl (hb hby dprog_66_method_6_code_3)
  refine own_st T1 (mkF m_ 6 #[.val (.ref a), .val (.ref o), .val (.int (0 : Int32)), .unset, .unset, .unset, .unset] [(.ref u)]) st1 ?_
  refine own_st T1 (mkF m_ 29 #[.val (.ref a), .val (.ref o), .val (.int (0 : Int32)), .val (.ref u), .val (.int (1 : Int32)), .val (.int (0 : Int32)), .val (.int x)] [(.ref o), (.int (0 : Int32))]) (fun t_ k_ => ?_) ?_
  · refine XS.astoreN X1.here hx rfl (hb hby dprog_66_method_6_code_6) rfl rfl (l' := #[.val (.ref a), .val (.ref o), .val (.int (0 : Int32)), .val (.ref u), .unset, .unset, .unset]) rfl ?_
    show Steps p_.tables e_ below (T1.setTop (mkF m_ 7 #[.val (.ref a), .val (.ref o), .val (.int (0 : Int32)), .val (.ref u), .unset, .unset, .unset] [])) t_
    refine XS.aloadN X1.here hx rfl (hb hby dprog_66_method_6_code_7) rfl rfl ?_
    show Steps p_.tables e_ below (T1.setTop (mkF m_ 8 #[.val (.ref a), .val (.ref o), .val (.int (0 : Int32)), .val (.ref u), .unset, .unset, .unset] [(.ref u)])) t_
    refine own_len X1 hx hZ e1 A_u (hb hby dprog_66_method_6_code_8) (1 : Int32) (by decide) _ ?_
    show Steps p_.tables e_ below (T1.setTop (mkF m_ 9 #[.val (.ref a), .val (.ref o), .val (.int (0 : Int32)), .val (.ref u), .unset, .unset, .unset] [(.int (1 : Int32))])) t_
    refine XS.istore X1.here hx rfl (hb hby dprog_66_method_6_code_9) rfl (l' := #[.val (.ref a), .val (.ref o), .val (.int (0 : Int32)), .val (.ref u), .val (.int (1 : Int32)), .unset, .unset]) rfl ?_
    show Steps p_.tables e_ below (T1.setTop (mkF m_ 11 #[.val (.ref a), .val (.ref o), .val (.int (0 : Int32)), .val (.ref u), .val (.int (1 : Int32)), .unset, .unset] [])) t_
    refine XS.iconst X1.here hx rfl (hb hby dprog_66_method_6_code_11) ?_
    show Steps p_.tables e_ below (T1.setTop (mkF m_ 12 #[.val (.ref a), .val (.ref o), .val (.int (0 : Int32)), .val (.ref u), .val (.int (1 : Int32)), .unset, .unset] [(.int (0 : Int32))])) t_
    refine XS.istore X1.here hx rfl (hb hby dprog_66_method_6_code_12) rfl (l' := #[.val (.ref a), .val (.ref o), .val (.int (0 : Int32)), .val (.ref u), .val (.int (1 : Int32)), .val (.int (0 : Int32)), .unset]) rfl ?_
    show Steps p_.tables e_ below (T1.setTop (mkF m_ 14 #[.val (.ref a), .val (.ref o), .val (.int (0 : Int32)), .val (.ref u), .val (.int (1 : Int32)), .val (.int (0 : Int32)), .unset] [])) t_
    refine XS.iload X1.here hx rfl (hb hby dprog_66_method_6_code_14) rfl ?_
    show Steps p_.tables e_ below (T1.setTop (mkF m_ 16 #[.val (.ref a), .val (.ref o), .val (.int (0 : Int32)), .val (.ref u), .val (.int (1 : Int32)), .val (.int (0 : Int32)), .unset] [(.int (0 : Int32))])) t_
    refine XS.iload X1.here hx rfl (hb hby dprog_66_method_6_code_16) rfl ?_
    show Steps p_.tables e_ below (T1.setTop (mkF m_ 18 #[.val (.ref a), .val (.ref o), .val (.int (0 : Int32)), .val (.ref u), .val (.int (1 : Int32)), .val (.int (0 : Int32)), .unset] [(.int (1 : Int32)), (.int (0 : Int32))])) t_
    refine XS.icmpNo X1.here hx rfl (hb hby dprog_66_method_6_code_18) rfl (tlt (by decide : (0 : Int32) < (1 : Int32))).2.1 ?_
    show Steps p_.tables e_ below (T1.setTop (mkF m_ 21 #[.val (.ref a), .val (.ref o), .val (.int (0 : Int32)), .val (.ref u), .val (.int (1 : Int32)), .val (.int (0 : Int32)), .unset] [])) t_
    refine XS.aloadN X1.here hx rfl (hb hby dprog_66_method_6_code_21) rfl rfl ?_
    show Steps p_.tables e_ below (T1.setTop (mkF m_ 22 #[.val (.ref a), .val (.ref o), .val (.int (0 : Int32)), .val (.ref u), .val (.int (1 : Int32)), .val (.int (0 : Int32)), .unset] [(.ref u)])) t_
    refine XS.iload X1.here hx rfl (hb hby dprog_66_method_6_code_22) rfl ?_
    show Steps p_.tables e_ below (T1.setTop (mkF m_ 24 #[.val (.ref a), .val (.ref o), .val (.int (0 : Int32)), .val (.ref u), .val (.int (1 : Int32)), .val (.int (0 : Int32)), .unset] [(.int (0 : Int32)), (.ref u)])) t_
    refine own_ldI X1 hx hZ e1 A_u 0 (by decide) (by decide) (hb hby dprog_66_method_6_code_24) _ ?_
    show Steps p_.tables e_ below (T1.setTop (mkF m_ 25 #[.val (.ref a), .val (.ref o), .val (.int (0 : Int32)), .val (.ref u), .val (.int (1 : Int32)), .val (.int (0 : Int32)), .unset] [(.int x)])) t_
    refine XS.istore X1.here hx rfl (hb hby dprog_66_method_6_code_25) rfl (l' := #[.val (.ref a), .val (.ref o), .val (.int (0 : Int32)), .val (.ref u), .val (.int (1 : Int32)), .val (.int (0 : Int32)), .val (.int x)]) rfl ?_
    show Steps p_.tables e_ below (T1.setTop (mkF m_ 27 #[.val (.ref a), .val (.ref o), .val (.int (0 : Int32)), .val (.ref u), .val (.int (1 : Int32)), .val (.int (0 : Int32)), .val (.int x)] [])) t_
    refine XS.iloadN X1.here hx rfl (hb hby dprog_66_method_6_code_27) rfl ?_
    show Steps p_.tables e_ below (T1.setTop (mkF m_ 28 #[.val (.ref a), .val (.ref o), .val (.int (0 : Int32)), .val (.ref u), .val (.int (1 : Int32)), .val (.int (0 : Int32)), .val (.int x)] [(.int (0 : Int32))])) t_
    refine XS.aloadN X1.here hx rfl (hb hby dprog_66_method_6_code_28) rfl rfl ?_
    show Steps p_.tables e_ below (T1.setTop (mkF m_ 29 #[.val (.ref a), .val (.ref o), .val (.int (0 : Int32)), .val (.ref u), .val (.int (1 : Int32)), .val (.int (0 : Int32)), .val (.int x)] [(.ref o), (.int (0 : Int32))])) t_
    exact k_
  obtain ⟨T2, X2, e2, st2⟩ := getF X1 hx hZ hown (host := "") (Or.inl (hw _ (List.mem_of_getElem? (i := 13) rfl))) Via.refl e1 F_levels_o (g := (mkF m_ 29 #[.val (.ref a), .val (.ref o), .val (.int (0 : Int32)), .val (.ref u), .val (.int (1 : Int32)), .val (.int (0 : Int32)), .val (.int x)] [(.ref o), (.int (0 : Int32))])) rfl rfl (hb hby dprog_66_method_6_code_29)
  refine own_st T2 (mkF m_ 32 #[.val (.ref a), .val (.ref o), .val (.int (0 : Int32)), .val (.ref u), .val (.int (1 : Int32)), .val (.int (0 : Int32)), .val (.int x)] [(.ref w), (.int (0 : Int32))]) st2 ?_
  refine own_st T2 (mkF m_ 37 #[.val (.ref a), .val (.ref o), .val (.int (0 : Int32)), .val (.ref u), .val (.int (1 : Int32)), .val (.int (0 : Int32)), .val (.int x)] [(.ref o)]) (fun t_ k_ => ?_) ?_
  · refine own_len X2 hx hZ e2 A_w (hb hby dprog_66_method_6_code_32) (1 : Int32) (by decide) _ ?_
    show Steps p_.tables e_ below (T2.setTop (mkF m_ 33 #[.val (.ref a), .val (.ref o), .val (.int (0 : Int32)), .val (.ref u), .val (.int (1 : Int32)), .val (.int (0 : Int32)), .val (.int x)] [(.int (1 : Int32)), (.int (0 : Int32))])) t_
    refine XS.icmpNo X2.here hx rfl (hb hby dprog_66_method_6_code_33) rfl (tlt (by decide : (0 : Int32) < (1 : Int32))).2.1 ?_
    show Steps p_.tables e_ below (T2.setTop (mkF m_ 36 #[.val (.ref a), .val (.ref o), .val (.int (0 : Int32)), .val (.ref u), .val (.int (1 : Int32)), .val (.int (0 : Int32)), .val (.int x)] [])) t_
    refine XS.aloadN X2.here hx rfl (hb hby dprog_66_method_6_code_36) rfl rfl ?_
    show Steps p_.tables e_ below (T2.setTop (mkF m_ 37 #[.val (.ref a), .val (.ref o), .val (.int (0 : Int32)), .val (.ref u), .val (.int (1 : Int32)), .val (.int (0 : Int32)), .val (.int x)] [(.ref o)])) t_
    exact k_
  obtain ⟨T3, X3, e3, st3⟩ := getF X2 hx hZ hown (host := "") (Or.inl (hw _ (List.mem_of_getElem? (i := 13) rfl))) Via.refl e2 F_levels_o (g := (mkF m_ 37 #[.val (.ref a), .val (.ref o), .val (.int (0 : Int32)), .val (.ref u), .val (.int (1 : Int32)), .val (.int (0 : Int32)), .val (.int x)] [(.ref o)])) rfl rfl (hb hby dprog_66_method_6_code_37)
  refine own_st T3 (mkF m_ 40 #[.val (.ref a), .val (.ref o), .val (.int (0 : Int32)), .val (.ref u), .val (.int (1 : Int32)), .val (.int (0 : Int32)), .val (.int x)] [(.ref w)]) st3 ?_
  refine own_st T3 (mkF m_ 44 #[.val (.ref a), .val (.ref o), .val (.int (0 : Int32)), .val (.ref u), .val (.int (1 : Int32)), .val (.int (0 : Int32)), .val (.int x)] [(.int x), (.int y)]) (fun t_ k_ => ?_) ?_
  · refine XS.iloadN X3.here hx rfl (hb hby dprog_66_method_6_code_40) rfl ?_
    show Steps p_.tables e_ below (T3.setTop (mkF m_ 41 #[.val (.ref a), .val (.ref o), .val (.int (0 : Int32)), .val (.ref u), .val (.int (1 : Int32)), .val (.int (0 : Int32)), .val (.int x)] [(.int (0 : Int32)), (.ref w)])) t_
    refine own_ldI X3 hx hZ e3 A_w 0 (by decide) (by decide) (hb hby dprog_66_method_6_code_41) _ ?_
    show Steps p_.tables e_ below (T3.setTop (mkF m_ 42 #[.val (.ref a), .val (.ref o), .val (.int (0 : Int32)), .val (.ref u), .val (.int (1 : Int32)), .val (.int (0 : Int32)), .val (.int x)] [(.int y)])) t_
    refine XS.iload X3.here hx rfl (hb hby dprog_66_method_6_code_42) rfl ?_
    show Steps p_.tables e_ below (T3.setTop (mkF m_ 44 #[.val (.ref a), .val (.ref o), .val (.int (0 : Int32)), .val (.ref u), .val (.int (1 : Int32)), .val (.int (0 : Int32)), .val (.int x)] [(.int x), (.int y)])) t_
    exact k_
  by_cases hc44 : y < x
  · refine own_st T3 (mkF m_ 47 #[.val (.ref a), .val (.ref o), .val (.int (0 : Int32)), .val (.ref u), .val (.int (1 : Int32)), .val (.int (0 : Int32)), .val (.int x)] []) (fun t_ k_ => XS.icmpNo X3.here hx rfl (hb hby dprog_66_method_6_code_44) rfl (tlt hc44).2.1 k_) ?_
    refine own_st T3 (mkF m_ 29 #[.val (.ref a), .val (.ref o), .val (.int (1 : Int32)), .val (.ref u), .val (.int (1 : Int32)), .val (.int (0 : Int32)), .val (.int x)] [(.ref o), (.int (1 : Int32))]) (fun t_ k_ => ?_) ?_
    · refine XS.iinc X3.here hx rfl (hb hby dprog_66_method_6_code_47) rfl (l' := #[.val (.ref a), .val (.ref o), .val (.int (1 : Int32)), .val (.ref u), .val (.int (1 : Int32)), .val (.int (0 : Int32)), .val (.int x)]) rfl ?_
      show Steps p_.tables e_ below (T3.setTop (mkF m_ 50 #[.val (.ref a), .val (.ref o), .val (.int (1 : Int32)), .val (.ref u), .val (.int (1 : Int32)), .val (.int (0 : Int32)), .val (.int x)] [])) t_
      refine XS.goto X3.here hx rfl (pc0 := 50) (pc' := 27) rfl (hb hby dprog_66_method_6_code_50) (by decide) (by decide) ?_
      show Steps p_.tables e_ below (T3.setTop (mkF m_ 27 #[.val (.ref a), .val (.ref o), .val (.int (1 : Int32)), .val (.ref u), .val (.int (1 : Int32)), .val (.int (0 : Int32)), .val (.int x)] [])) t_
      refine XS.iloadN X3.here hx rfl (hb hby dprog_66_method_6_code_27) rfl ?_
      show Steps p_.tables e_ below (T3.setTop (mkF m_ 28 #[.val (.ref a), .val (.ref o), .val (.int (1 : Int32)), .val (.ref u), .val (.int (1 : Int32)), .val (.int (0 : Int32)), .val (.int x)] [(.int (1 : Int32))])) t_
      refine XS.aloadN X3.here hx rfl (hb hby dprog_66_method_6_code_28) rfl rfl ?_
      show Steps p_.tables e_ below (T3.setTop (mkF m_ 29 #[.val (.ref a), .val (.ref o), .val (.int (1 : Int32)), .val (.ref u), .val (.int (1 : Int32)), .val (.int (0 : Int32)), .val (.int x)] [(.ref o), (.int (1 : Int32))])) t_
      exact k_
    obtain ⟨T4, X4, e4, st4⟩ := getF X3 hx hZ hown (host := "") (Or.inl (hw _ (List.mem_of_getElem? (i := 13) rfl))) Via.refl e3 F_levels_o (g := (mkF m_ 29 #[.val (.ref a), .val (.ref o), .val (.int (1 : Int32)), .val (.ref u), .val (.int (1 : Int32)), .val (.int (0 : Int32)), .val (.int x)] [(.ref o), (.int (1 : Int32))])) rfl rfl (hb hby dprog_66_method_6_code_29)
    refine own_st T4 (mkF m_ 32 #[.val (.ref a), .val (.ref o), .val (.int (1 : Int32)), .val (.ref u), .val (.int (1 : Int32)), .val (.int (0 : Int32)), .val (.int x)] [(.ref w), (.int (1 : Int32))]) st4 ?_
    refine own_st T4 (mkF m_ 55 #[.val (.ref a), .val (.ref o), .val (.int (1 : Int32)), .val (.ref u), .val (.int (1 : Int32)), .val (.int (0 : Int32)), .val (.int x)] [(.ref o), (.int (1 : Int32))]) (fun t_ k_ => ?_) ?_
    · refine own_len X4 hx hZ e4 A_w (hb hby dprog_66_method_6_code_32) (1 : Int32) (by decide) _ ?_
      show Steps p_.tables e_ below (T4.setTop (mkF m_ 33 #[.val (.ref a), .val (.ref o), .val (.int (1 : Int32)), .val (.ref u), .val (.int (1 : Int32)), .val (.int (0 : Int32)), .val (.int x)] [(.int (1 : Int32)), (.int (1 : Int32))])) t_
      refine XS.icmpYes X4.here hx rfl (pc0 := 33) (pc' := 53) rfl (hb hby dprog_66_method_6_code_33) rfl (flt (by decide : ¬ ((1 : Int32) < (1 : Int32)))).2.1 (by decide) (by decide) ?_
      show Steps p_.tables e_ below (T4.setTop (mkF m_ 53 #[.val (.ref a), .val (.ref o), .val (.int (1 : Int32)), .val (.ref u), .val (.int (1 : Int32)), .val (.int (0 : Int32)), .val (.int x)] [])) t_
      refine XS.iloadN X4.here hx rfl (hb hby dprog_66_method_6_code_53) rfl ?_
      show Steps p_.tables e_ below (T4.setTop (mkF m_ 54 #[.val (.ref a), .val (.ref o), .val (.int (1 : Int32)), .val (.ref u), .val (.int (1 : Int32)), .val (.int (0 : Int32)), .val (.int x)] [(.int (1 : Int32))])) t_
      refine XS.aloadN X4.here hx rfl (hb hby dprog_66_method_6_code_54) rfl rfl ?_
      show Steps p_.tables e_ below (T4.setTop (mkF m_ 55 #[.val (.ref a), .val (.ref o), .val (.int (1 : Int32)), .val (.ref u), .val (.int (1 : Int32)), .val (.int (0 : Int32)), .val (.int x)] [(.ref o), (.int (1 : Int32))])) t_
      exact k_
    obtain ⟨T5, X5, e5, st5⟩ := getF X4 hx hZ hown (host := "") (Or.inl (hw _ (List.mem_of_getElem? (i := 13) rfl))) Via.refl e4 F_levels_o (g := (mkF m_ 55 #[.val (.ref a), .val (.ref o), .val (.int (1 : Int32)), .val (.ref u), .val (.int (1 : Int32)), .val (.int (0 : Int32)), .val (.int x)] [(.ref o), (.int (1 : Int32))])) rfl rfl (hb hby dprog_66_method_6_code_55)
    refine own_st T5 (mkF m_ 58 #[.val (.ref a), .val (.ref o), .val (.int (1 : Int32)), .val (.ref u), .val (.int (1 : Int32)), .val (.int (0 : Int32)), .val (.int x)] [(.ref w), (.int (1 : Int32))]) st5 ?_
    refine own_st T5 (mkF m_ 74 #[.val (.ref a), .val (.ref o), .val (.int (1 : Int32)), .val (.ref u), .val (.int (1 : Int32)), .val (.int (0 : Int32)), .val (.int x)] [(.int (0 : Int32))]) (fun t_ k_ => ?_) ?_
    · refine own_len X5 hx hZ e5 A_w (hb hby dprog_66_method_6_code_58) (1 : Int32) (by decide) _ ?_
      show Steps p_.tables e_ below (T5.setTop (mkF m_ 59 #[.val (.ref a), .val (.ref o), .val (.int (1 : Int32)), .val (.ref u), .val (.int (1 : Int32)), .val (.int (0 : Int32)), .val (.int x)] [(.int (1 : Int32)), (.int (1 : Int32))])) t_
      refine XS.icmpYes X5.here hx rfl (pc0 := 59) (pc' := 73) rfl (hb hby dprog_66_method_6_code_59) rfl (teq (by decide : (1 : Int32) = (1 : Int32))).1 (by decide) (by decide) ?_
      show Steps p_.tables e_ below (T5.setTop (mkF m_ 73 #[.val (.ref a), .val (.ref o), .val (.int (1 : Int32)), .val (.ref u), .val (.int (1 : Int32)), .val (.int (0 : Int32)), .val (.int x)] [])) t_
      refine XS.iconst X5.here hx rfl (hb hby dprog_66_method_6_code_73) ?_
      show Steps p_.tables e_ below (T5.setTop (mkF m_ 74 #[.val (.ref a), .val (.ref o), .val (.int (1 : Int32)), .val (.ref u), .val (.int (1 : Int32)), .val (.int (0 : Int32)), .val (.int x)] [(.int (0 : Int32))])) t_
      exact k_
    refine own_retN X5 hx hlk (t := .boolean) hret (by simp) (hb hby dprog_66_method_6_code_74) (by decide) (by decide) ?_
    rw [e5]
    have hz : nar .boolean (0 : Int32) = (0 : Int32) := rfl
    rw [hz]
    exact ⟨by simp only [f6, if_pos hc44], N0, rfl⟩
  · refine own_st T3 (mkF m_ 53 #[.val (.ref a), .val (.ref o), .val (.int (0 : Int32)), .val (.ref u), .val (.int (1 : Int32)), .val (.int (0 : Int32)), .val (.int x)] []) (fun t_ k_ => XS.icmpYes X3.here hx rfl (pc0 := 44) (pc' := 53) rfl (hb hby dprog_66_method_6_code_44) rfl (flt hc44).2.1 (by decide) (by decide) k_) ?_
    refine own_st T3 (mkF m_ 55 #[.val (.ref a), .val (.ref o), .val (.int (0 : Int32)), .val (.ref u), .val (.int (1 : Int32)), .val (.int (0 : Int32)), .val (.int x)] [(.ref o), (.int (0 : Int32))]) (fun t_ k_ => ?_) ?_
    · refine XS.iloadN X3.here hx rfl (hb hby dprog_66_method_6_code_53) rfl ?_
      show Steps p_.tables e_ below (T3.setTop (mkF m_ 54 #[.val (.ref a), .val (.ref o), .val (.int (0 : Int32)), .val (.ref u), .val (.int (1 : Int32)), .val (.int (0 : Int32)), .val (.int x)] [(.int (0 : Int32))])) t_
      refine XS.aloadN X3.here hx rfl (hb hby dprog_66_method_6_code_54) rfl rfl ?_
      show Steps p_.tables e_ below (T3.setTop (mkF m_ 55 #[.val (.ref a), .val (.ref o), .val (.int (0 : Int32)), .val (.ref u), .val (.int (1 : Int32)), .val (.int (0 : Int32)), .val (.int x)] [(.ref o), (.int (0 : Int32))])) t_
      exact k_
    obtain ⟨T6, X6, e6, st6⟩ := getF X3 hx hZ hown (host := "") (Or.inl (hw _ (List.mem_of_getElem? (i := 13) rfl))) Via.refl e3 F_levels_o (g := (mkF m_ 55 #[.val (.ref a), .val (.ref o), .val (.int (0 : Int32)), .val (.ref u), .val (.int (1 : Int32)), .val (.int (0 : Int32)), .val (.int x)] [(.ref o), (.int (0 : Int32))])) rfl rfl (hb hby dprog_66_method_6_code_55)
    refine own_st T6 (mkF m_ 58 #[.val (.ref a), .val (.ref o), .val (.int (0 : Int32)), .val (.ref u), .val (.int (1 : Int32)), .val (.int (0 : Int32)), .val (.int x)] [(.ref w), (.int (0 : Int32))]) st6 ?_
    refine own_st T6 (mkF m_ 63 #[.val (.ref a), .val (.ref o), .val (.int (0 : Int32)), .val (.ref u), .val (.int (1 : Int32)), .val (.int (0 : Int32)), .val (.int x)] [(.ref o)]) (fun t_ k_ => ?_) ?_
    · refine own_len X6 hx hZ e6 A_w (hb hby dprog_66_method_6_code_58) (1 : Int32) (by decide) _ ?_
      show Steps p_.tables e_ below (T6.setTop (mkF m_ 59 #[.val (.ref a), .val (.ref o), .val (.int (0 : Int32)), .val (.ref u), .val (.int (1 : Int32)), .val (.int (0 : Int32)), .val (.int x)] [(.int (1 : Int32)), (.int (0 : Int32))])) t_
      refine XS.icmpNo X6.here hx rfl (hb hby dprog_66_method_6_code_59) rfl (feq (by decide : ¬ ((0 : Int32) = (1 : Int32)))).1 ?_
      show Steps p_.tables e_ below (T6.setTop (mkF m_ 62 #[.val (.ref a), .val (.ref o), .val (.int (0 : Int32)), .val (.ref u), .val (.int (1 : Int32)), .val (.int (0 : Int32)), .val (.int x)] [])) t_
      refine XS.aloadN X6.here hx rfl (hb hby dprog_66_method_6_code_62) rfl rfl ?_
      show Steps p_.tables e_ below (T6.setTop (mkF m_ 63 #[.val (.ref a), .val (.ref o), .val (.int (0 : Int32)), .val (.ref u), .val (.int (1 : Int32)), .val (.int (0 : Int32)), .val (.int x)] [(.ref o)])) t_
      exact k_
    obtain ⟨T7, X7, e7, st7⟩ := getF X6 hx hZ hown (host := "") (Or.inl (hw _ (List.mem_of_getElem? (i := 13) rfl))) Via.refl e6 F_levels_o (g := (mkF m_ 63 #[.val (.ref a), .val (.ref o), .val (.int (0 : Int32)), .val (.ref u), .val (.int (1 : Int32)), .val (.int (0 : Int32)), .val (.int x)] [(.ref o)])) rfl rfl (hb hby dprog_66_method_6_code_63)
    refine own_st T7 (mkF m_ 66 #[.val (.ref a), .val (.ref o), .val (.int (0 : Int32)), .val (.ref u), .val (.int (1 : Int32)), .val (.int (0 : Int32)), .val (.int x)] [(.ref w)]) st7 ?_
    refine own_st T7 (mkF m_ 70 #[.val (.ref a), .val (.ref o), .val (.int (0 : Int32)), .val (.ref u), .val (.int (1 : Int32)), .val (.int (0 : Int32)), .val (.int x)] [(.int x), (.int y)]) (fun t_ k_ => ?_) ?_
    · refine XS.iloadN X7.here hx rfl (hb hby dprog_66_method_6_code_66) rfl ?_
      show Steps p_.tables e_ below (T7.setTop (mkF m_ 67 #[.val (.ref a), .val (.ref o), .val (.int (0 : Int32)), .val (.ref u), .val (.int (1 : Int32)), .val (.int (0 : Int32)), .val (.int x)] [(.int (0 : Int32)), (.ref w)])) t_
      refine own_ldI X7 hx hZ e7 A_w 0 (by decide) (by decide) (hb hby dprog_66_method_6_code_67) _ ?_
      show Steps p_.tables e_ below (T7.setTop (mkF m_ 68 #[.val (.ref a), .val (.ref o), .val (.int (0 : Int32)), .val (.ref u), .val (.int (1 : Int32)), .val (.int (0 : Int32)), .val (.int x)] [(.int y)])) t_
      refine XS.iload X7.here hx rfl (hb hby dprog_66_method_6_code_68) rfl ?_
      show Steps p_.tables e_ below (T7.setTop (mkF m_ 70 #[.val (.ref a), .val (.ref o), .val (.int (0 : Int32)), .val (.ref u), .val (.int (1 : Int32)), .val (.int (0 : Int32)), .val (.int x)] [(.int x), (.int y)])) t_
      exact k_
    by_cases hc70 : y = x
    · refine own_st T7 (mkF m_ 75 #[.val (.ref a), .val (.ref o), .val (.int (0 : Int32)), .val (.ref u), .val (.int (1 : Int32)), .val (.int (0 : Int32)), .val (.int x)] []) (fun t_ k_ => XS.icmpYes X7.here hx rfl (pc0 := 70) (pc' := 75) rfl (hb hby dprog_66_method_6_code_70) rfl (teq hc70).1 (by decide) (by decide) k_) ?_
      refine own_st T7 (mkF m_ 82 #[.val (.ref a), .val (.ref o), .val (.int (0 : Int32)), .val (.ref u), .val (.int (1 : Int32)), .val (.int (1 : Int32)), .val (.int x)] [(.int (1 : Int32))]) (fun t_ k_ => ?_) ?_
      · refine XS.iinc X7.here hx rfl (hb hby dprog_66_method_6_code_75) rfl (l' := #[.val (.ref a), .val (.ref o), .val (.int (0 : Int32)), .val (.ref u), .val (.int (1 : Int32)), .val (.int (1 : Int32)), .val (.int x)]) rfl ?_
        show Steps p_.tables e_ below (T7.setTop (mkF m_ 78 #[.val (.ref a), .val (.ref o), .val (.int (0 : Int32)), .val (.ref u), .val (.int (1 : Int32)), .val (.int (1 : Int32)), .val (.int x)] [])) t_
        refine XS.goto X7.here hx rfl (pc0 := 78) (pc' := 14) rfl (hb hby dprog_66_method_6_code_78) (by decide) (by decide) ?_
        show Steps p_.tables e_ below (T7.setTop (mkF m_ 14 #[.val (.ref a), .val (.ref o), .val (.int (0 : Int32)), .val (.ref u), .val (.int (1 : Int32)), .val (.int (1 : Int32)), .val (.int x)] [])) t_
        refine XS.iload X7.here hx rfl (hb hby dprog_66_method_6_code_14) rfl ?_
        show Steps p_.tables e_ below (T7.setTop (mkF m_ 16 #[.val (.ref a), .val (.ref o), .val (.int (0 : Int32)), .val (.ref u), .val (.int (1 : Int32)), .val (.int (1 : Int32)), .val (.int x)] [(.int (1 : Int32))])) t_
        refine XS.iload X7.here hx rfl (hb hby dprog_66_method_6_code_16) rfl ?_
        show Steps p_.tables e_ below (T7.setTop (mkF m_ 18 #[.val (.ref a), .val (.ref o), .val (.int (0 : Int32)), .val (.ref u), .val (.int (1 : Int32)), .val (.int (1 : Int32)), .val (.int x)] [(.int (1 : Int32)), (.int (1 : Int32))])) t_
        refine XS.icmpYes X7.here hx rfl (pc0 := 18) (pc' := 81) rfl (hb hby dprog_66_method_6_code_18) rfl (flt (by decide : ¬ ((1 : Int32) < (1 : Int32)))).2.1 (by decide) (by decide) ?_
        show Steps p_.tables e_ below (T7.setTop (mkF m_ 81 #[.val (.ref a), .val (.ref o), .val (.int (0 : Int32)), .val (.ref u), .val (.int (1 : Int32)), .val (.int (1 : Int32)), .val (.int x)] [])) t_
        refine XS.iconst X7.here hx rfl (hb hby dprog_66_method_6_code_81) ?_
        show Steps p_.tables e_ below (T7.setTop (mkF m_ 82 #[.val (.ref a), .val (.ref o), .val (.int (0 : Int32)), .val (.ref u), .val (.int (1 : Int32)), .val (.int (1 : Int32)), .val (.int x)] [(.int (1 : Int32))])) t_
        exact k_
      refine own_retN X7 hx hlk (t := .boolean) hret (by simp) (hb hby dprog_66_method_6_code_82) (by decide) (by decide) ?_
      rw [e7]
      have hz : nar .boolean (1 : Int32) = (1 : Int32) := rfl
      rw [hz]
      exact ⟨by simp only [f6, if_neg hc44, if_pos hc70], N0, rfl⟩
    · refine own_st T7 (mkF m_ 73 #[.val (.ref a), .val (.ref o), .val (.int (0 : Int32)), .val (.ref u), .val (.int (1 : Int32)), .val (.int (0 : Int32)), .val (.int x)] []) (fun t_ k_ => XS.icmpNo X7.here hx rfl (hb hby dprog_66_method_6_code_70) rfl (feq hc70).1 k_) ?_
      refine own_st T7 (mkF m_ 74 #[.val (.ref a), .val (.ref o), .val (.int (0 : Int32)), .val (.ref u), .val (.int (1 : Int32)), .val (.int (0 : Int32)), .val (.int x)] [(.int (0 : Int32))]) (fun t_ k_ => ?_) ?_
      · refine XS.iconst X7.here hx rfl (hb hby dprog_66_method_6_code_73) ?_
        show Steps p_.tables e_ below (T7.setTop (mkF m_ 74 #[.val (.ref a), .val (.ref o), .val (.int (0 : Int32)), .val (.ref u), .val (.int (1 : Int32)), .val (.int (0 : Int32)), .val (.int x)] [(.int (0 : Int32))])) t_
        exact k_
      refine own_retN X7 hx hlk (t := .boolean) hret (by simp) (hb hby dprog_66_method_6_code_74) (by decide) (by decide) ?_
      rw [e7]
      have hz : nar .boolean (0 : Int32) = (0 : Int32) := rfl
      rw [hz]
      exact ⟨by simp only [f6, if_neg hc44, if_neg hc70], N0, rfl⟩
theorem ef_rm6e (m_ : MethodId) (a : Addr) (o : Addr) : entryFrame m_ #[(.ref a), (.ref o)] 7 = mkF m_ 0 #[.val (.ref a), .val (.ref o), .unset, .unset, .unset, .unset, .unset] [] := by first | (simp [entryFrame, mkF, argsToLocals, Value.category]; done) | rfl
set_option maxRecDepth 65536 in
set_option maxHeartbeats 40000000 in
theorem rm6e (l : Launch) (Z : State) (a0 : Array Value) (hw : ∀ d ∈ tables_1, d.before a0 Z = true) (a : Addr) (o : Addr) (u w : Addr) (ku kw : ClassId) (x : Int32) (h0 : Heap) (n0 : Nat) (Z0 : n0 ≤ h0.size) (F_levels_a : Fld Z h0 a "com/example/tabmod/tabmod/tableau/DepSet" "levels" "[I" (.ref u)) (A_u : own_A Z h0 u ku .int 1 (fun x_ => .int (([x] : List Int32).getD x_ 0))) (F_levels_o : Fld Z h0 o "com/example/tabmod/tabmod/tableau/DepSet" "levels" "[I" (.ref w)) (A_w : own_A Z h0 w kw .int 0 (fun x_ => .int (([] : List Int32).getD x_ 0))) :
    own_Met l Z (⟨"com/example/tabmod/tabmod/tableau/DepSet", "within", "(Lcom/example/tabmod/tabmod/tableau/DepSet;)Z"⟩ : MethodName) prog_66_method_6_code 7 (some .boolean) ({ frames := 0, cells := 0, slots := 0, locals := 0 } : Room) #[(.ref a), (.ref o)] h0 (fun v h L => v = some (.int (0)) ∧ Fr n0 L ∧ h = h0) := by
  refine own_body #[.val (.ref a), .val (.ref o), .unset, .unset, .unset, .unset, .unset] (plainFor_of_name own_pn0) (fun m_ => ef_rm6e m_ a o) ?_
  intro p_ e_ s_ m_ below meth c_ s₁ X0 hx hby hml hret hlk hZ hown hnm e0
  have N0 := Fr.nil n0
  show own_Out p_ e_ below s_ _ _ _ s₁ (mkF m_ 0 #[.val (.ref a), .val (.ref o), .unset, .unset, .unset, .unset, .unset] [])
  refine own_st s₁ (mkF m_ 3 #[.val (.ref a), .val (.ref o), .val (.int (0 : Int32)), .unset, .unset, .unset, .unset] [(.ref a)]) (fun t_ k_ => ?_) ?_
  · refine XS.iconst X0.here hx rfl (hb hby dprog_66_method_6_code_0) ?_
    show Steps p_.tables e_ below (s₁.setTop (mkF m_ 1 #[.val (.ref a), .val (.ref o), .unset, .unset, .unset, .unset, .unset] [(.int (0 : Int32))])) t_
    refine XS.istoreN X0.here hx rfl (hb hby dprog_66_method_6_code_1) rfl (l' := #[.val (.ref a), .val (.ref o), .val (.int (0 : Int32)), .unset, .unset, .unset, .unset]) rfl ?_
    show Steps p_.tables e_ below (s₁.setTop (mkF m_ 2 #[.val (.ref a), .val (.ref o), .val (.int (0 : Int32)), .unset, .unset, .unset, .unset] [])) t_
    refine XS.aloadN X0.here hx rfl (hb hby dprog_66_method_6_code_2) rfl rfl ?_
    show Steps p_.tables e_ below (s₁.setTop (mkF m_ 3 #[.val (.ref a), .val (.ref o), .val (.int (0 : Int32)), .unset, .unset, .unset, .unset] [(.ref a)])) t_
    exact k_
  obtain ⟨T1, X1, e1, st1⟩ := getF X0 hx hZ hown (host := "") (Or.inl (hw _ (List.mem_of_getElem? (i := 13) rfl))) Via.refl e0 F_levels_a (g := (mkF m_ 3 #[.val (.ref a), .val (.ref o), .val (.int (0 : Int32)), .unset, .unset, .unset, .unset] [(.ref a)])) rfl rfl (hb hby dprog_66_method_6_code_3)
  refine own_st T1 (mkF m_ 6 #[.val (.ref a), .val (.ref o), .val (.int (0 : Int32)), .unset, .unset, .unset, .unset] [(.ref u)]) st1 ?_
  refine own_st T1 (mkF m_ 29 #[.val (.ref a), .val (.ref o), .val (.int (0 : Int32)), .val (.ref u), .val (.int (1 : Int32)), .val (.int (0 : Int32)), .val (.int x)] [(.ref o), (.int (0 : Int32))]) (fun t_ k_ => ?_) ?_
  · refine XS.astoreN X1.here hx rfl (hb hby dprog_66_method_6_code_6) rfl rfl (l' := #[.val (.ref a), .val (.ref o), .val (.int (0 : Int32)), .val (.ref u), .unset, .unset, .unset]) rfl ?_
    show Steps p_.tables e_ below (T1.setTop (mkF m_ 7 #[.val (.ref a), .val (.ref o), .val (.int (0 : Int32)), .val (.ref u), .unset, .unset, .unset] [])) t_
    refine XS.aloadN X1.here hx rfl (hb hby dprog_66_method_6_code_7) rfl rfl ?_
    show Steps p_.tables e_ below (T1.setTop (mkF m_ 8 #[.val (.ref a), .val (.ref o), .val (.int (0 : Int32)), .val (.ref u), .unset, .unset, .unset] [(.ref u)])) t_
    refine own_len X1 hx hZ e1 A_u (hb hby dprog_66_method_6_code_8) (1 : Int32) (by decide) _ ?_
    show Steps p_.tables e_ below (T1.setTop (mkF m_ 9 #[.val (.ref a), .val (.ref o), .val (.int (0 : Int32)), .val (.ref u), .unset, .unset, .unset] [(.int (1 : Int32))])) t_
    refine XS.istore X1.here hx rfl (hb hby dprog_66_method_6_code_9) rfl (l' := #[.val (.ref a), .val (.ref o), .val (.int (0 : Int32)), .val (.ref u), .val (.int (1 : Int32)), .unset, .unset]) rfl ?_
    show Steps p_.tables e_ below (T1.setTop (mkF m_ 11 #[.val (.ref a), .val (.ref o), .val (.int (0 : Int32)), .val (.ref u), .val (.int (1 : Int32)), .unset, .unset] [])) t_
    refine XS.iconst X1.here hx rfl (hb hby dprog_66_method_6_code_11) ?_
    show Steps p_.tables e_ below (T1.setTop (mkF m_ 12 #[.val (.ref a), .val (.ref o), .val (.int (0 : Int32)), .val (.ref u), .val (.int (1 : Int32)), .unset, .unset] [(.int (0 : Int32))])) t_
    refine XS.istore X1.here hx rfl (hb hby dprog_66_method_6_code_12) rfl (l' := #[.val (.ref a), .val (.ref o), .val (.int (0 : Int32)), .val (.ref u), .val (.int (1 : Int32)), .val (.int (0 : Int32)), .unset]) rfl ?_
    show Steps p_.tables e_ below (T1.setTop (mkF m_ 14 #[.val (.ref a), .val (.ref o), .val (.int (0 : Int32)), .val (.ref u), .val (.int (1 : Int32)), .val (.int (0 : Int32)), .unset] [])) t_
    refine XS.iload X1.here hx rfl (hb hby dprog_66_method_6_code_14) rfl ?_
    show Steps p_.tables e_ below (T1.setTop (mkF m_ 16 #[.val (.ref a), .val (.ref o), .val (.int (0 : Int32)), .val (.ref u), .val (.int (1 : Int32)), .val (.int (0 : Int32)), .unset] [(.int (0 : Int32))])) t_
    refine XS.iload X1.here hx rfl (hb hby dprog_66_method_6_code_16) rfl ?_
    show Steps p_.tables e_ below (T1.setTop (mkF m_ 18 #[.val (.ref a), .val (.ref o), .val (.int (0 : Int32)), .val (.ref u), .val (.int (1 : Int32)), .val (.int (0 : Int32)), .unset] [(.int (1 : Int32)), (.int (0 : Int32))])) t_
    refine XS.icmpNo X1.here hx rfl (hb hby dprog_66_method_6_code_18) rfl (tlt (by decide : (0 : Int32) < (1 : Int32))).2.1 ?_
    show Steps p_.tables e_ below (T1.setTop (mkF m_ 21 #[.val (.ref a), .val (.ref o), .val (.int (0 : Int32)), .val (.ref u), .val (.int (1 : Int32)), .val (.int (0 : Int32)), .unset] [])) t_
    refine XS.aloadN X1.here hx rfl (hb hby dprog_66_method_6_code_21) rfl rfl ?_
    show Steps p_.tables e_ below (T1.setTop (mkF m_ 22 #[.val (.ref a), .val (.ref o), .val (.int (0 : Int32)), .val (.ref u), .val (.int (1 : Int32)), .val (.int (0 : Int32)), .unset] [(.ref u)])) t_
    refine XS.iload X1.here hx rfl (hb hby dprog_66_method_6_code_22) rfl ?_
    show Steps p_.tables e_ below (T1.setTop (mkF m_ 24 #[.val (.ref a), .val (.ref o), .val (.int (0 : Int32)), .val (.ref u), .val (.int (1 : Int32)), .val (.int (0 : Int32)), .unset] [(.int (0 : Int32)), (.ref u)])) t_
    refine own_ldI X1 hx hZ e1 A_u 0 (by decide) (by decide) (hb hby dprog_66_method_6_code_24) _ ?_
    show Steps p_.tables e_ below (T1.setTop (mkF m_ 25 #[.val (.ref a), .val (.ref o), .val (.int (0 : Int32)), .val (.ref u), .val (.int (1 : Int32)), .val (.int (0 : Int32)), .unset] [(.int x)])) t_
    refine XS.istore X1.here hx rfl (hb hby dprog_66_method_6_code_25) rfl (l' := #[.val (.ref a), .val (.ref o), .val (.int (0 : Int32)), .val (.ref u), .val (.int (1 : Int32)), .val (.int (0 : Int32)), .val (.int x)]) rfl ?_
    show Steps p_.tables e_ below (T1.setTop (mkF m_ 27 #[.val (.ref a), .val (.ref o), .val (.int (0 : Int32)), .val (.ref u), .val (.int (1 : Int32)), .val (.int (0 : Int32)), .val (.int x)] [])) t_
    refine XS.iloadN X1.here hx rfl (hb hby dprog_66_method_6_code_27) rfl ?_
    show Steps p_.tables e_ below (T1.setTop (mkF m_ 28 #[.val (.ref a), .val (.ref o), .val (.int (0 : Int32)), .val (.ref u), .val (.int (1 : Int32)), .val (.int (0 : Int32)), .val (.int x)] [(.int (0 : Int32))])) t_
    refine XS.aloadN X1.here hx rfl (hb hby dprog_66_method_6_code_28) rfl rfl ?_
    show Steps p_.tables e_ below (T1.setTop (mkF m_ 29 #[.val (.ref a), .val (.ref o), .val (.int (0 : Int32)), .val (.ref u), .val (.int (1 : Int32)), .val (.int (0 : Int32)), .val (.int x)] [(.ref o), (.int (0 : Int32))])) t_
    exact k_
  obtain ⟨T2, X2, e2, st2⟩ := getF X1 hx hZ hown (host := "") (Or.inl (hw _ (List.mem_of_getElem? (i := 13) rfl))) Via.refl e1 F_levels_o (g := (mkF m_ 29 #[.val (.ref a), .val (.ref o), .val (.int (0 : Int32)), .val (.ref u), .val (.int (1 : Int32)), .val (.int (0 : Int32)), .val (.int x)] [(.ref o), (.int (0 : Int32))])) rfl rfl (hb hby dprog_66_method_6_code_29)
  refine own_st T2 (mkF m_ 32 #[.val (.ref a), .val (.ref o), .val (.int (0 : Int32)), .val (.ref u), .val (.int (1 : Int32)), .val (.int (0 : Int32)), .val (.int x)] [(.ref w), (.int (0 : Int32))]) st2 ?_
  refine own_st T2 (mkF m_ 55 #[.val (.ref a), .val (.ref o), .val (.int (0 : Int32)), .val (.ref u), .val (.int (1 : Int32)), .val (.int (0 : Int32)), .val (.int x)] [(.ref o), (.int (0 : Int32))]) (fun t_ k_ => ?_) ?_
  · refine own_len X2 hx hZ e2 A_w (hb hby dprog_66_method_6_code_32) (0 : Int32) (by decide) _ ?_
    show Steps p_.tables e_ below (T2.setTop (mkF m_ 33 #[.val (.ref a), .val (.ref o), .val (.int (0 : Int32)), .val (.ref u), .val (.int (1 : Int32)), .val (.int (0 : Int32)), .val (.int x)] [(.int (0 : Int32)), (.int (0 : Int32))])) t_
    refine XS.icmpYes X2.here hx rfl (pc0 := 33) (pc' := 53) rfl (hb hby dprog_66_method_6_code_33) rfl (flt (by decide : ¬ ((0 : Int32) < (0 : Int32)))).2.1 (by decide) (by decide) ?_
    show Steps p_.tables e_ below (T2.setTop (mkF m_ 53 #[.val (.ref a), .val (.ref o), .val (.int (0 : Int32)), .val (.ref u), .val (.int (1 : Int32)), .val (.int (0 : Int32)), .val (.int x)] [])) t_
    refine XS.iloadN X2.here hx rfl (hb hby dprog_66_method_6_code_53) rfl ?_
    show Steps p_.tables e_ below (T2.setTop (mkF m_ 54 #[.val (.ref a), .val (.ref o), .val (.int (0 : Int32)), .val (.ref u), .val (.int (1 : Int32)), .val (.int (0 : Int32)), .val (.int x)] [(.int (0 : Int32))])) t_
    refine XS.aloadN X2.here hx rfl (hb hby dprog_66_method_6_code_54) rfl rfl ?_
    show Steps p_.tables e_ below (T2.setTop (mkF m_ 55 #[.val (.ref a), .val (.ref o), .val (.int (0 : Int32)), .val (.ref u), .val (.int (1 : Int32)), .val (.int (0 : Int32)), .val (.int x)] [(.ref o), (.int (0 : Int32))])) t_
    exact k_
  obtain ⟨T3, X3, e3, st3⟩ := getF X2 hx hZ hown (host := "") (Or.inl (hw _ (List.mem_of_getElem? (i := 13) rfl))) Via.refl e2 F_levels_o (g := (mkF m_ 55 #[.val (.ref a), .val (.ref o), .val (.int (0 : Int32)), .val (.ref u), .val (.int (1 : Int32)), .val (.int (0 : Int32)), .val (.int x)] [(.ref o), (.int (0 : Int32))])) rfl rfl (hb hby dprog_66_method_6_code_55)
  refine own_st T3 (mkF m_ 58 #[.val (.ref a), .val (.ref o), .val (.int (0 : Int32)), .val (.ref u), .val (.int (1 : Int32)), .val (.int (0 : Int32)), .val (.int x)] [(.ref w), (.int (0 : Int32))]) st3 ?_
  refine own_st T3 (mkF m_ 74 #[.val (.ref a), .val (.ref o), .val (.int (0 : Int32)), .val (.ref u), .val (.int (1 : Int32)), .val (.int (0 : Int32)), .val (.int x)] [(.int (0 : Int32))]) (fun t_ k_ => ?_) ?_
  · refine own_len X3 hx hZ e3 A_w (hb hby dprog_66_method_6_code_58) (0 : Int32) (by decide) _ ?_
    show Steps p_.tables e_ below (T3.setTop (mkF m_ 59 #[.val (.ref a), .val (.ref o), .val (.int (0 : Int32)), .val (.ref u), .val (.int (1 : Int32)), .val (.int (0 : Int32)), .val (.int x)] [(.int (0 : Int32)), (.int (0 : Int32))])) t_
    refine XS.icmpYes X3.here hx rfl (pc0 := 59) (pc' := 73) rfl (hb hby dprog_66_method_6_code_59) rfl (teq (by decide : (0 : Int32) = (0 : Int32))).1 (by decide) (by decide) ?_
    show Steps p_.tables e_ below (T3.setTop (mkF m_ 73 #[.val (.ref a), .val (.ref o), .val (.int (0 : Int32)), .val (.ref u), .val (.int (1 : Int32)), .val (.int (0 : Int32)), .val (.int x)] [])) t_
    refine XS.iconst X3.here hx rfl (hb hby dprog_66_method_6_code_73) ?_
    show Steps p_.tables e_ below (T3.setTop (mkF m_ 74 #[.val (.ref a), .val (.ref o), .val (.int (0 : Int32)), .val (.ref u), .val (.int (1 : Int32)), .val (.int (0 : Int32)), .val (.int x)] [(.int (0 : Int32))])) t_
    exact k_
  refine own_retN X3 hx hlk (t := .boolean) hret (by simp) (hb hby dprog_66_method_6_code_74) (by decide) (by decide) ?_
  rw [e3]
  have hz : nar .boolean (0 : Int32) = (0 : Int32) := rfl
  rw [hz]
  exact ⟨rfl, N0, rfl⟩
def f9 (x key : Int32) : Int32 := if x < key then -2 else if key < x then -1 else 0
theorem own_f9s (x : Int32) : f9 x x = 0 := by unfold f9; rw [if_neg (by rw [Int32.lt_iff_toInt_lt]; omega), if_neg (by rw [Int32.lt_iff_toInt_lt]; omega)]
theorem own_neg {x y : Int32} (h : ¬ x = y) : f9 x y < 0 := by
  unfold f9
  by_cases q : x < y
  · rw [if_pos q]; decide
  · rw [if_neg q]
    by_cases r : y < x
    · rw [if_pos r]; decide
    · exact absurd (Int32.toInt_inj.mp (by rw [Int32.lt_iff_toInt_lt] at q r; omega)) h
theorem own_w1 {x y : Int32} (h : x = y) : f6 x y = 1 := by subst h; unfold f6; rw [if_neg (by rw [Int32.lt_iff_toInt_lt]; omega), if_pos rfl]
theorem own_w0 {x y : Int32} (h : ¬ x = y) : f6 x y = 0 := by unfold f6; rw [if_neg (show ¬ y = x from fun q => h q.symm)]; split <;> rfl

theorem djdk_65_method_59_code_0 : decode jdk_65_method_59_code 0 = .ok (.iload_n 1, 1) := by decide +kernel
theorem djdk_65_method_59_code_1 : decode jdk_65_method_59_code 1 = .ok (.istore 4, 2) := by decide +kernel
theorem djdk_65_method_59_code_3 : decode jdk_65_method_59_code 3 = .ok (.iload_n 2, 1) := by decide +kernel
theorem djdk_65_method_59_code_4 : decode jdk_65_method_59_code 4 = .ok (.iconst 1, 1) := by decide +kernel
theorem djdk_65_method_59_code_5 : decode jdk_65_method_59_code 5 = .ok (.isub, 1) := by decide +kernel
theorem djdk_65_method_59_code_6 : decode jdk_65_method_59_code 6 = .ok (.istore 5, 2) := by decide +kernel
theorem djdk_65_method_59_code_8 : decode jdk_65_method_59_code 8 = .ok (.iload 4, 2) := by decide +kernel
theorem djdk_65_method_59_code_10 : decode jdk_65_method_59_code 10 = .ok (.iload 5, 2) := by decide +kernel
theorem djdk_65_method_59_code_12 : decode jdk_65_method_59_code 12 = .ok (.if_icmp .gt 54, 3) := by decide +kernel
theorem djdk_65_method_59_code_15 : decode jdk_65_method_59_code 15 = .ok (.iload 4, 2) := by decide +kernel
theorem djdk_65_method_59_code_17 : decode jdk_65_method_59_code 17 = .ok (.iload 5, 2) := by decide +kernel
theorem djdk_65_method_59_code_19 : decode jdk_65_method_59_code 19 = .ok (.iadd, 1) := by decide +kernel
theorem djdk_65_method_59_code_20 : decode jdk_65_method_59_code 20 = .ok (.iconst 1, 1) := by decide +kernel
theorem djdk_65_method_59_code_21 : decode jdk_65_method_59_code 21 = .ok (.iushr, 1) := by decide +kernel
theorem djdk_65_method_59_code_22 : decode jdk_65_method_59_code 22 = .ok (.istore 6, 2) := by decide +kernel
theorem djdk_65_method_59_code_24 : decode jdk_65_method_59_code 24 = .ok (.aload_n 0, 1) := by decide +kernel
theorem djdk_65_method_59_code_25 : decode jdk_65_method_59_code 25 = .ok (.iload 6, 2) := by decide +kernel
theorem djdk_65_method_59_code_27 : decode jdk_65_method_59_code 27 = .ok (.iaload, 1) := by decide +kernel
theorem djdk_65_method_59_code_28 : decode jdk_65_method_59_code 28 = .ok (.istore 7, 2) := by decide +kernel
theorem djdk_65_method_59_code_30 : decode jdk_65_method_59_code 30 = .ok (.iload 7, 2) := by decide +kernel
theorem djdk_65_method_59_code_32 : decode jdk_65_method_59_code 32 = .ok (.iload_n 3, 1) := by decide +kernel
theorem djdk_65_method_59_code_33 : decode jdk_65_method_59_code 33 = .ok (.if_icmp .ge 12, 3) := by decide +kernel
theorem djdk_65_method_59_code_36 : decode jdk_65_method_59_code 36 = .ok (.iload 6, 2) := by decide +kernel
theorem djdk_65_method_59_code_38 : decode jdk_65_method_59_code 38 = .ok (.iconst 1, 1) := by decide +kernel
theorem djdk_65_method_59_code_39 : decode jdk_65_method_59_code 39 = .ok (.iadd, 1) := by decide +kernel
theorem djdk_65_method_59_code_40 : decode jdk_65_method_59_code 40 = .ok (.istore 4, 2) := by decide +kernel
theorem djdk_65_method_59_code_42 : decode jdk_65_method_59_code 42 = .ok (.goto 21, 3) := by decide +kernel
theorem djdk_65_method_59_code_63 : decode jdk_65_method_59_code 63 = .ok (.goto (-55), 3) := by decide +kernel
theorem djdk_65_method_59_code_66 : decode jdk_65_method_59_code 66 = .ok (.iload 4, 2) := by decide +kernel
theorem djdk_65_method_59_code_68 : decode jdk_65_method_59_code 68 = .ok (.iconst 1, 1) := by decide +kernel
theorem djdk_65_method_59_code_69 : decode jdk_65_method_59_code 69 = .ok (.iadd, 1) := by decide +kernel
theorem djdk_65_method_59_code_70 : decode jdk_65_method_59_code 70 = .ok (.ineg, 1) := by decide +kernel
theorem djdk_65_method_59_code_71 : decode jdk_65_method_59_code 71 = .ok (.ireturn, 1) := by decide +kernel
theorem djdk_65_method_59_code_45 : decode jdk_65_method_59_code 45 = .ok (.iload 7, 2) := by decide +kernel
theorem djdk_65_method_59_code_47 : decode jdk_65_method_59_code 47 = .ok (.iload_n 3, 1) := by decide +kernel
theorem djdk_65_method_59_code_48 : decode jdk_65_method_59_code 48 = .ok (.if_icmp .le 12, 3) := by decide +kernel
theorem djdk_65_method_59_code_51 : decode jdk_65_method_59_code 51 = .ok (.iload 6, 2) := by decide +kernel
theorem djdk_65_method_59_code_53 : decode jdk_65_method_59_code 53 = .ok (.iconst 1, 1) := by decide +kernel
theorem djdk_65_method_59_code_54 : decode jdk_65_method_59_code 54 = .ok (.isub, 1) := by decide +kernel
theorem djdk_65_method_59_code_55 : decode jdk_65_method_59_code 55 = .ok (.istore 5, 2) := by decide +kernel
theorem djdk_65_method_59_code_57 : decode jdk_65_method_59_code 57 = .ok (.goto 6, 3) := by decide +kernel
theorem djdk_65_method_59_code_60 : decode jdk_65_method_59_code 60 = .ok (.iload 6, 2) := by decide +kernel
theorem djdk_65_method_59_code_62 : decode jdk_65_method_59_code 62 = .ok (.ireturn, 1) := by decide +kernel
theorem ef_rm9 (m_ : MethodId) (u : Addr) (key : Int32) : entryFrame m_ #[(.ref u), (.int (0 : Int32)), (.int (1 : Int32)), (.int key)] 8 = mkF m_ 0 #[.val (.ref u), .val (.int (0 : Int32)), .val (.int (1 : Int32)), .val (.int key), .unset, .unset, .unset, .unset] [] := by first | (simp [entryFrame, mkF, argsToLocals, Value.category]; done) | rfl
theorem own_pn1 : plainName "java/util/Arrays" = true := by first | (simp [plainName, overriddenIn]; done) | decide +kernel
set_option maxRecDepth 65536 in
set_option maxHeartbeats 40000000 in
theorem rm9 (l : Launch) (Z : State) (a0 : Array Value) (hw : ∀ d ∈ tables_1, d.before a0 Z = true) (u : Addr) (key : Int32) (ku : ClassId) (x : Int32) (h0 : Heap) (n0 : Nat) (Z0 : n0 ≤ h0.size) (A_u : own_A Z h0 u ku .int 1 (fun x_ => .int (([x] : List Int32).getD x_ 0))) :
    own_Met l Z (⟨"java/util/Arrays", "binarySearch0", "([IIII)I"⟩ : MethodName) jdk_65_method_59_code 8 (some .int) ({ frames := 0, cells := 0, slots := 0, locals := 0 } : Room) #[(.ref u), (.int (0 : Int32)), (.int (1 : Int32)), (.int key)] h0 (fun v h L => v = some (.int (f9 x key)) ∧ Fr n0 L ∧ h = h0) := by
  refine own_body #[.val (.ref u), .val (.int (0 : Int32)), .val (.int (1 : Int32)), .val (.int key), .unset, .unset, .unset, .unset] (plainFor_of_name own_pn1) (fun m_ => ef_rm9 m_ u key) ?_
  intro p_ e_ s_ m_ below meth c_ s₁ X0 hx hby hml hret hlk hZ hown hnm e0
  have N0 := Fr.nil n0
  show own_Out p_ e_ below s_ _ _ _ s₁ (mkF m_ 0 #[.val (.ref u), .val (.int (0 : Int32)), .val (.int (1 : Int32)), .val (.int key), .unset, .unset, .unset, .unset] [])
  refine own_st s₁ (mkF m_ 33 #[.val (.ref u), .val (.int (0 : Int32)), .val (.int (1 : Int32)), .val (.int key), .val (.int (0 : Int32)), .val (.int (0 : Int32)), .val (.int (0 : Int32)), .val (.int x)] [(.int key), (.int x)]) (fun t_ k_ => ?_) ?_
  · refine XS.iloadN X0.here hx rfl (hb hby djdk_65_method_59_code_0) rfl ?_
    show Steps p_.tables e_ below (s₁.setTop (mkF m_ 1 #[.val (.ref u), .val (.int (0 : Int32)), .val (.int (1 : Int32)), .val (.int key), .unset, .unset, .unset, .unset] [(.int (0 : Int32))])) t_
    refine XS.istore X0.here hx rfl (hb hby djdk_65_method_59_code_1) rfl (l' := #[.val (.ref u), .val (.int (0 : Int32)), .val (.int (1 : Int32)), .val (.int key), .val (.int (0 : Int32)), .unset, .unset, .unset]) rfl ?_
    show Steps p_.tables e_ below (s₁.setTop (mkF m_ 3 #[.val (.ref u), .val (.int (0 : Int32)), .val (.int (1 : Int32)), .val (.int key), .val (.int (0 : Int32)), .unset, .unset, .unset] [])) t_
    refine XS.iloadN X0.here hx rfl (hb hby djdk_65_method_59_code_3) rfl ?_
    show Steps p_.tables e_ below (s₁.setTop (mkF m_ 4 #[.val (.ref u), .val (.int (0 : Int32)), .val (.int (1 : Int32)), .val (.int key), .val (.int (0 : Int32)), .unset, .unset, .unset] [(.int (1 : Int32))])) t_
    refine XS.iconst X0.here hx rfl (hb hby djdk_65_method_59_code_4) ?_
    show Steps p_.tables e_ below (s₁.setTop (mkF m_ 5 #[.val (.ref u), .val (.int (0 : Int32)), .val (.int (1 : Int32)), .val (.int key), .val (.int (0 : Int32)), .unset, .unset, .unset] [(.int (1 : Int32)), (.int (1 : Int32))])) t_
    refine XS.isub X0.here hx rfl (hb hby djdk_65_method_59_code_5) rfl ?_
    show Steps p_.tables e_ below (s₁.setTop (mkF m_ 6 #[.val (.ref u), .val (.int (0 : Int32)), .val (.int (1 : Int32)), .val (.int key), .val (.int (0 : Int32)), .unset, .unset, .unset] [(.int (0 : Int32))])) t_
    refine XS.istore X0.here hx rfl (hb hby djdk_65_method_59_code_6) rfl (l' := #[.val (.ref u), .val (.int (0 : Int32)), .val (.int (1 : Int32)), .val (.int key), .val (.int (0 : Int32)), .val (.int (0 : Int32)), .unset, .unset]) rfl ?_
    show Steps p_.tables e_ below (s₁.setTop (mkF m_ 8 #[.val (.ref u), .val (.int (0 : Int32)), .val (.int (1 : Int32)), .val (.int key), .val (.int (0 : Int32)), .val (.int (0 : Int32)), .unset, .unset] [])) t_
    refine XS.iload X0.here hx rfl (hb hby djdk_65_method_59_code_8) rfl ?_
    show Steps p_.tables e_ below (s₁.setTop (mkF m_ 10 #[.val (.ref u), .val (.int (0 : Int32)), .val (.int (1 : Int32)), .val (.int key), .val (.int (0 : Int32)), .val (.int (0 : Int32)), .unset, .unset] [(.int (0 : Int32))])) t_
    refine XS.iload X0.here hx rfl (hb hby djdk_65_method_59_code_10) rfl ?_
    show Steps p_.tables e_ below (s₁.setTop (mkF m_ 12 #[.val (.ref u), .val (.int (0 : Int32)), .val (.int (1 : Int32)), .val (.int key), .val (.int (0 : Int32)), .val (.int (0 : Int32)), .unset, .unset] [(.int (0 : Int32)), (.int (0 : Int32))])) t_
    refine XS.icmpNo X0.here hx rfl (hb hby djdk_65_method_59_code_12) rfl (flt (by decide : ¬ ((0 : Int32) < (0 : Int32)))).2.2.1 ?_
    show Steps p_.tables e_ below (s₁.setTop (mkF m_ 15 #[.val (.ref u), .val (.int (0 : Int32)), .val (.int (1 : Int32)), .val (.int key), .val (.int (0 : Int32)), .val (.int (0 : Int32)), .unset, .unset] [])) t_
    refine XS.iload X0.here hx rfl (hb hby djdk_65_method_59_code_15) rfl ?_
    show Steps p_.tables e_ below (s₁.setTop (mkF m_ 17 #[.val (.ref u), .val (.int (0 : Int32)), .val (.int (1 : Int32)), .val (.int key), .val (.int (0 : Int32)), .val (.int (0 : Int32)), .unset, .unset] [(.int (0 : Int32))])) t_
    refine XS.iload X0.here hx rfl (hb hby djdk_65_method_59_code_17) rfl ?_
    show Steps p_.tables e_ below (s₁.setTop (mkF m_ 19 #[.val (.ref u), .val (.int (0 : Int32)), .val (.int (1 : Int32)), .val (.int key), .val (.int (0 : Int32)), .val (.int (0 : Int32)), .unset, .unset] [(.int (0 : Int32)), (.int (0 : Int32))])) t_
    refine XS.iadd X0.here hx rfl (hb hby djdk_65_method_59_code_19) rfl ?_
    show Steps p_.tables e_ below (s₁.setTop (mkF m_ 20 #[.val (.ref u), .val (.int (0 : Int32)), .val (.int (1 : Int32)), .val (.int key), .val (.int (0 : Int32)), .val (.int (0 : Int32)), .unset, .unset] [(.int (0 : Int32))])) t_
    refine XS.iconst X0.here hx rfl (hb hby djdk_65_method_59_code_20) ?_
    show Steps p_.tables e_ below (s₁.setTop (mkF m_ 21 #[.val (.ref u), .val (.int (0 : Int32)), .val (.int (1 : Int32)), .val (.int key), .val (.int (0 : Int32)), .val (.int (0 : Int32)), .unset, .unset] [(.int (1 : Int32)), (.int (0 : Int32))])) t_
    refine XS.iushr X0.here hx rfl (hb hby djdk_65_method_59_code_21) rfl ?_
    show Steps p_.tables e_ below (s₁.setTop (mkF m_ 22 #[.val (.ref u), .val (.int (0 : Int32)), .val (.int (1 : Int32)), .val (.int key), .val (.int (0 : Int32)), .val (.int (0 : Int32)), .unset, .unset] [(.int (0 : Int32))])) t_
    refine XS.istore X0.here hx rfl (hb hby djdk_65_method_59_code_22) rfl (l' := #[.val (.ref u), .val (.int (0 : Int32)), .val (.int (1 : Int32)), .val (.int key), .val (.int (0 : Int32)), .val (.int (0 : Int32)), .val (.int (0 : Int32)), .unset]) rfl ?_
    show Steps p_.tables e_ below (s₁.setTop (mkF m_ 24 #[.val (.ref u), .val (.int (0 : Int32)), .val (.int (1 : Int32)), .val (.int key), .val (.int (0 : Int32)), .val (.int (0 : Int32)), .val (.int (0 : Int32)), .unset] [])) t_
    refine XS.aloadN X0.here hx rfl (hb hby djdk_65_method_59_code_24) rfl rfl ?_
    show Steps p_.tables e_ below (s₁.setTop (mkF m_ 25 #[.val (.ref u), .val (.int (0 : Int32)), .val (.int (1 : Int32)), .val (.int key), .val (.int (0 : Int32)), .val (.int (0 : Int32)), .val (.int (0 : Int32)), .unset] [(.ref u)])) t_
    refine XS.iload X0.here hx rfl (hb hby djdk_65_method_59_code_25) rfl ?_
    show Steps p_.tables e_ below (s₁.setTop (mkF m_ 27 #[.val (.ref u), .val (.int (0 : Int32)), .val (.int (1 : Int32)), .val (.int key), .val (.int (0 : Int32)), .val (.int (0 : Int32)), .val (.int (0 : Int32)), .unset] [(.int (0 : Int32)), (.ref u)])) t_
    refine own_ldI X0 hx hZ e0 A_u 0 (by decide) (by decide) (hb hby djdk_65_method_59_code_27) _ ?_
    show Steps p_.tables e_ below (s₁.setTop (mkF m_ 28 #[.val (.ref u), .val (.int (0 : Int32)), .val (.int (1 : Int32)), .val (.int key), .val (.int (0 : Int32)), .val (.int (0 : Int32)), .val (.int (0 : Int32)), .unset] [(.int x)])) t_
    refine XS.istore X0.here hx rfl (hb hby djdk_65_method_59_code_28) rfl (l' := #[.val (.ref u), .val (.int (0 : Int32)), .val (.int (1 : Int32)), .val (.int key), .val (.int (0 : Int32)), .val (.int (0 : Int32)), .val (.int (0 : Int32)), .val (.int x)]) rfl ?_
    show Steps p_.tables e_ below (s₁.setTop (mkF m_ 30 #[.val (.ref u), .val (.int (0 : Int32)), .val (.int (1 : Int32)), .val (.int key), .val (.int (0 : Int32)), .val (.int (0 : Int32)), .val (.int (0 : Int32)), .val (.int x)] [])) t_
    refine XS.iload X0.here hx rfl (hb hby djdk_65_method_59_code_30) rfl ?_
    show Steps p_.tables e_ below (s₁.setTop (mkF m_ 32 #[.val (.ref u), .val (.int (0 : Int32)), .val (.int (1 : Int32)), .val (.int key), .val (.int (0 : Int32)), .val (.int (0 : Int32)), .val (.int (0 : Int32)), .val (.int x)] [(.int x)])) t_
    refine XS.iloadN X0.here hx rfl (hb hby djdk_65_method_59_code_32) rfl ?_
    show Steps p_.tables e_ below (s₁.setTop (mkF m_ 33 #[.val (.ref u), .val (.int (0 : Int32)), .val (.int (1 : Int32)), .val (.int key), .val (.int (0 : Int32)), .val (.int (0 : Int32)), .val (.int (0 : Int32)), .val (.int x)] [(.int key), (.int x)])) t_
    exact k_
  by_cases hc33 : x < key
  · refine own_st s₁ (mkF m_ 36 #[.val (.ref u), .val (.int (0 : Int32)), .val (.int (1 : Int32)), .val (.int key), .val (.int (0 : Int32)), .val (.int (0 : Int32)), .val (.int (0 : Int32)), .val (.int x)] []) (fun t_ k_ => XS.icmpNo X0.here hx rfl (hb hby djdk_65_method_59_code_33) rfl (tlt hc33).2.1 k_) ?_
    refine own_st s₁ (mkF m_ 71 #[.val (.ref u), .val (.int (0 : Int32)), .val (.int (1 : Int32)), .val (.int key), .val (.int (1 : Int32)), .val (.int (0 : Int32)), .val (.int (0 : Int32)), .val (.int x)] [(.int (-2 : Int32))]) (fun t_ k_ => ?_) ?_
    · refine XS.iload X0.here hx rfl (hb hby djdk_65_method_59_code_36) rfl ?_
      show Steps p_.tables e_ below (s₁.setTop (mkF m_ 38 #[.val (.ref u), .val (.int (0 : Int32)), .val (.int (1 : Int32)), .val (.int key), .val (.int (0 : Int32)), .val (.int (0 : Int32)), .val (.int (0 : Int32)), .val (.int x)] [(.int (0 : Int32))])) t_
      refine XS.iconst X0.here hx rfl (hb hby djdk_65_method_59_code_38) ?_
      show Steps p_.tables e_ below (s₁.setTop (mkF m_ 39 #[.val (.ref u), .val (.int (0 : Int32)), .val (.int (1 : Int32)), .val (.int key), .val (.int (0 : Int32)), .val (.int (0 : Int32)), .val (.int (0 : Int32)), .val (.int x)] [(.int (1 : Int32)), (.int (0 : Int32))])) t_
      refine XS.iadd X0.here hx rfl (hb hby djdk_65_method_59_code_39) rfl ?_
      show Steps p_.tables e_ below (s₁.setTop (mkF m_ 40 #[.val (.ref u), .val (.int (0 : Int32)), .val (.int (1 : Int32)), .val (.int key), .val (.int (0 : Int32)), .val (.int (0 : Int32)), .val (.int (0 : Int32)), .val (.int x)] [(.int (1 : Int32))])) t_
      refine XS.istore X0.here hx rfl (hb hby djdk_65_method_59_code_40) rfl (l' := #[.val (.ref u), .val (.int (0 : Int32)), .val (.int (1 : Int32)), .val (.int key), .val (.int (1 : Int32)), .val (.int (0 : Int32)), .val (.int (0 : Int32)), .val (.int x)]) rfl ?_
      show Steps p_.tables e_ below (s₁.setTop (mkF m_ 42 #[.val (.ref u), .val (.int (0 : Int32)), .val (.int (1 : Int32)), .val (.int key), .val (.int (1 : Int32)), .val (.int (0 : Int32)), .val (.int (0 : Int32)), .val (.int x)] [])) t_
      refine XS.goto X0.here hx rfl (pc0 := 42) (pc' := 63) rfl (hb hby djdk_65_method_59_code_42) (by decide) (by decide) ?_
      show Steps p_.tables e_ below (s₁.setTop (mkF m_ 63 #[.val (.ref u), .val (.int (0 : Int32)), .val (.int (1 : Int32)), .val (.int key), .val (.int (1 : Int32)), .val (.int (0 : Int32)), .val (.int (0 : Int32)), .val (.int x)] [])) t_
      refine XS.goto X0.here hx rfl (pc0 := 63) (pc' := 8) rfl (hb hby djdk_65_method_59_code_63) (by decide) (by decide) ?_
      show Steps p_.tables e_ below (s₁.setTop (mkF m_ 8 #[.val (.ref u), .val (.int (0 : Int32)), .val (.int (1 : Int32)), .val (.int key), .val (.int (1 : Int32)), .val (.int (0 : Int32)), .val (.int (0 : Int32)), .val (.int x)] [])) t_
      refine XS.iload X0.here hx rfl (hb hby djdk_65_method_59_code_8) rfl ?_
      show Steps p_.tables e_ below (s₁.setTop (mkF m_ 10 #[.val (.ref u), .val (.int (0 : Int32)), .val (.int (1 : Int32)), .val (.int key), .val (.int (1 : Int32)), .val (.int (0 : Int32)), .val (.int (0 : Int32)), .val (.int x)] [(.int (1 : Int32))])) t_
      refine XS.iload X0.here hx rfl (hb hby djdk_65_method_59_code_10) rfl ?_
      show Steps p_.tables e_ below (s₁.setTop (mkF m_ 12 #[.val (.ref u), .val (.int (0 : Int32)), .val (.int (1 : Int32)), .val (.int key), .val (.int (1 : Int32)), .val (.int (0 : Int32)), .val (.int (0 : Int32)), .val (.int x)] [(.int (0 : Int32)), (.int (1 : Int32))])) t_
      refine XS.icmpYes X0.here hx rfl (pc0 := 12) (pc' := 66) rfl (hb hby djdk_65_method_59_code_12) rfl (tlt (by decide : (0 : Int32) < (1 : Int32))).2.2.1 (by decide) (by decide) ?_
      show Steps p_.tables e_ below (s₁.setTop (mkF m_ 66 #[.val (.ref u), .val (.int (0 : Int32)), .val (.int (1 : Int32)), .val (.int key), .val (.int (1 : Int32)), .val (.int (0 : Int32)), .val (.int (0 : Int32)), .val (.int x)] [])) t_
      refine XS.iload X0.here hx rfl (hb hby djdk_65_method_59_code_66) rfl ?_
      show Steps p_.tables e_ below (s₁.setTop (mkF m_ 68 #[.val (.ref u), .val (.int (0 : Int32)), .val (.int (1 : Int32)), .val (.int key), .val (.int (1 : Int32)), .val (.int (0 : Int32)), .val (.int (0 : Int32)), .val (.int x)] [(.int (1 : Int32))])) t_
      refine XS.iconst X0.here hx rfl (hb hby djdk_65_method_59_code_68) ?_
      show Steps p_.tables e_ below (s₁.setTop (mkF m_ 69 #[.val (.ref u), .val (.int (0 : Int32)), .val (.int (1 : Int32)), .val (.int key), .val (.int (1 : Int32)), .val (.int (0 : Int32)), .val (.int (0 : Int32)), .val (.int x)] [(.int (1 : Int32)), (.int (1 : Int32))])) t_
      refine XS.iadd X0.here hx rfl (hb hby djdk_65_method_59_code_69) rfl ?_
      show Steps p_.tables e_ below (s₁.setTop (mkF m_ 70 #[.val (.ref u), .val (.int (0 : Int32)), .val (.int (1 : Int32)), .val (.int key), .val (.int (1 : Int32)), .val (.int (0 : Int32)), .val (.int (0 : Int32)), .val (.int x)] [(.int (2 : Int32))])) t_
      refine XS.ineg X0.here hx rfl (hb hby djdk_65_method_59_code_70) rfl ?_
      show Steps p_.tables e_ below (s₁.setTop (mkF m_ 71 #[.val (.ref u), .val (.int (0 : Int32)), .val (.int (1 : Int32)), .val (.int key), .val (.int (1 : Int32)), .val (.int (0 : Int32)), .val (.int (0 : Int32)), .val (.int x)] [(.int (-2 : Int32))])) t_
      exact k_
    refine own_retI X0 hx hlk hret (hb hby djdk_65_method_59_code_71) (by decide) (by decide) ?_
    rw [e0]
    exact ⟨by simp only [f9, if_pos hc33], N0, rfl⟩
  · refine own_st s₁ (mkF m_ 45 #[.val (.ref u), .val (.int (0 : Int32)), .val (.int (1 : Int32)), .val (.int key), .val (.int (0 : Int32)), .val (.int (0 : Int32)), .val (.int (0 : Int32)), .val (.int x)] []) (fun t_ k_ => XS.icmpYes X0.here hx rfl (pc0 := 33) (pc' := 45) rfl (hb hby djdk_65_method_59_code_33) rfl (flt hc33).2.1 (by decide) (by decide) k_) ?_
    refine own_st s₁ (mkF m_ 48 #[.val (.ref u), .val (.int (0 : Int32)), .val (.int (1 : Int32)), .val (.int key), .val (.int (0 : Int32)), .val (.int (0 : Int32)), .val (.int (0 : Int32)), .val (.int x)] [(.int key), (.int x)]) (fun t_ k_ => ?_) ?_
    · refine XS.iload X0.here hx rfl (hb hby djdk_65_method_59_code_45) rfl ?_
      show Steps p_.tables e_ below (s₁.setTop (mkF m_ 47 #[.val (.ref u), .val (.int (0 : Int32)), .val (.int (1 : Int32)), .val (.int key), .val (.int (0 : Int32)), .val (.int (0 : Int32)), .val (.int (0 : Int32)), .val (.int x)] [(.int x)])) t_
      refine XS.iloadN X0.here hx rfl (hb hby djdk_65_method_59_code_47) rfl ?_
      show Steps p_.tables e_ below (s₁.setTop (mkF m_ 48 #[.val (.ref u), .val (.int (0 : Int32)), .val (.int (1 : Int32)), .val (.int key), .val (.int (0 : Int32)), .val (.int (0 : Int32)), .val (.int (0 : Int32)), .val (.int x)] [(.int key), (.int x)])) t_
      exact k_
    by_cases hc48 : key < x
    · refine own_st s₁ (mkF m_ 51 #[.val (.ref u), .val (.int (0 : Int32)), .val (.int (1 : Int32)), .val (.int key), .val (.int (0 : Int32)), .val (.int (0 : Int32)), .val (.int (0 : Int32)), .val (.int x)] []) (fun t_ k_ => XS.icmpNo X0.here hx rfl (hb hby djdk_65_method_59_code_48) rfl (tlt hc48).2.2.2 k_) ?_
      refine own_st s₁ (mkF m_ 71 #[.val (.ref u), .val (.int (0 : Int32)), .val (.int (1 : Int32)), .val (.int key), .val (.int (0 : Int32)), .val (.int (-1 : Int32)), .val (.int (0 : Int32)), .val (.int x)] [(.int (-1 : Int32))]) (fun t_ k_ => ?_) ?_
      · refine XS.iload X0.here hx rfl (hb hby djdk_65_method_59_code_51) rfl ?_
        show Steps p_.tables e_ below (s₁.setTop (mkF m_ 53 #[.val (.ref u), .val (.int (0 : Int32)), .val (.int (1 : Int32)), .val (.int key), .val (.int (0 : Int32)), .val (.int (0 : Int32)), .val (.int (0 : Int32)), .val (.int x)] [(.int (0 : Int32))])) t_
        refine XS.iconst X0.here hx rfl (hb hby djdk_65_method_59_code_53) ?_
        show Steps p_.tables e_ below (s₁.setTop (mkF m_ 54 #[.val (.ref u), .val (.int (0 : Int32)), .val (.int (1 : Int32)), .val (.int key), .val (.int (0 : Int32)), .val (.int (0 : Int32)), .val (.int (0 : Int32)), .val (.int x)] [(.int (1 : Int32)), (.int (0 : Int32))])) t_
        refine XS.isub X0.here hx rfl (hb hby djdk_65_method_59_code_54) rfl ?_
        show Steps p_.tables e_ below (s₁.setTop (mkF m_ 55 #[.val (.ref u), .val (.int (0 : Int32)), .val (.int (1 : Int32)), .val (.int key), .val (.int (0 : Int32)), .val (.int (0 : Int32)), .val (.int (0 : Int32)), .val (.int x)] [(.int (-1 : Int32))])) t_
        refine XS.istore X0.here hx rfl (hb hby djdk_65_method_59_code_55) rfl (l' := #[.val (.ref u), .val (.int (0 : Int32)), .val (.int (1 : Int32)), .val (.int key), .val (.int (0 : Int32)), .val (.int (-1 : Int32)), .val (.int (0 : Int32)), .val (.int x)]) rfl ?_
        show Steps p_.tables e_ below (s₁.setTop (mkF m_ 57 #[.val (.ref u), .val (.int (0 : Int32)), .val (.int (1 : Int32)), .val (.int key), .val (.int (0 : Int32)), .val (.int (-1 : Int32)), .val (.int (0 : Int32)), .val (.int x)] [])) t_
        refine XS.goto X0.here hx rfl (pc0 := 57) (pc' := 63) rfl (hb hby djdk_65_method_59_code_57) (by decide) (by decide) ?_
        show Steps p_.tables e_ below (s₁.setTop (mkF m_ 63 #[.val (.ref u), .val (.int (0 : Int32)), .val (.int (1 : Int32)), .val (.int key), .val (.int (0 : Int32)), .val (.int (-1 : Int32)), .val (.int (0 : Int32)), .val (.int x)] [])) t_
        refine XS.goto X0.here hx rfl (pc0 := 63) (pc' := 8) rfl (hb hby djdk_65_method_59_code_63) (by decide) (by decide) ?_
        show Steps p_.tables e_ below (s₁.setTop (mkF m_ 8 #[.val (.ref u), .val (.int (0 : Int32)), .val (.int (1 : Int32)), .val (.int key), .val (.int (0 : Int32)), .val (.int (-1 : Int32)), .val (.int (0 : Int32)), .val (.int x)] [])) t_
        refine XS.iload X0.here hx rfl (hb hby djdk_65_method_59_code_8) rfl ?_
        show Steps p_.tables e_ below (s₁.setTop (mkF m_ 10 #[.val (.ref u), .val (.int (0 : Int32)), .val (.int (1 : Int32)), .val (.int key), .val (.int (0 : Int32)), .val (.int (-1 : Int32)), .val (.int (0 : Int32)), .val (.int x)] [(.int (0 : Int32))])) t_
        refine XS.iload X0.here hx rfl (hb hby djdk_65_method_59_code_10) rfl ?_
        show Steps p_.tables e_ below (s₁.setTop (mkF m_ 12 #[.val (.ref u), .val (.int (0 : Int32)), .val (.int (1 : Int32)), .val (.int key), .val (.int (0 : Int32)), .val (.int (-1 : Int32)), .val (.int (0 : Int32)), .val (.int x)] [(.int (-1 : Int32)), (.int (0 : Int32))])) t_
        refine XS.icmpYes X0.here hx rfl (pc0 := 12) (pc' := 66) rfl (hb hby djdk_65_method_59_code_12) rfl (tlt (by decide : (-1 : Int32) < (0 : Int32))).2.2.1 (by decide) (by decide) ?_
        show Steps p_.tables e_ below (s₁.setTop (mkF m_ 66 #[.val (.ref u), .val (.int (0 : Int32)), .val (.int (1 : Int32)), .val (.int key), .val (.int (0 : Int32)), .val (.int (-1 : Int32)), .val (.int (0 : Int32)), .val (.int x)] [])) t_
        refine XS.iload X0.here hx rfl (hb hby djdk_65_method_59_code_66) rfl ?_
        show Steps p_.tables e_ below (s₁.setTop (mkF m_ 68 #[.val (.ref u), .val (.int (0 : Int32)), .val (.int (1 : Int32)), .val (.int key), .val (.int (0 : Int32)), .val (.int (-1 : Int32)), .val (.int (0 : Int32)), .val (.int x)] [(.int (0 : Int32))])) t_
        refine XS.iconst X0.here hx rfl (hb hby djdk_65_method_59_code_68) ?_
        show Steps p_.tables e_ below (s₁.setTop (mkF m_ 69 #[.val (.ref u), .val (.int (0 : Int32)), .val (.int (1 : Int32)), .val (.int key), .val (.int (0 : Int32)), .val (.int (-1 : Int32)), .val (.int (0 : Int32)), .val (.int x)] [(.int (1 : Int32)), (.int (0 : Int32))])) t_
        refine XS.iadd X0.here hx rfl (hb hby djdk_65_method_59_code_69) rfl ?_
        show Steps p_.tables e_ below (s₁.setTop (mkF m_ 70 #[.val (.ref u), .val (.int (0 : Int32)), .val (.int (1 : Int32)), .val (.int key), .val (.int (0 : Int32)), .val (.int (-1 : Int32)), .val (.int (0 : Int32)), .val (.int x)] [(.int (1 : Int32))])) t_
        refine XS.ineg X0.here hx rfl (hb hby djdk_65_method_59_code_70) rfl ?_
        show Steps p_.tables e_ below (s₁.setTop (mkF m_ 71 #[.val (.ref u), .val (.int (0 : Int32)), .val (.int (1 : Int32)), .val (.int key), .val (.int (0 : Int32)), .val (.int (-1 : Int32)), .val (.int (0 : Int32)), .val (.int x)] [(.int (-1 : Int32))])) t_
        exact k_
      refine own_retI X0 hx hlk hret (hb hby djdk_65_method_59_code_71) (by decide) (by decide) ?_
      rw [e0]
      exact ⟨by simp only [f9, if_neg hc33, if_pos hc48], N0, rfl⟩
    · refine own_st s₁ (mkF m_ 60 #[.val (.ref u), .val (.int (0 : Int32)), .val (.int (1 : Int32)), .val (.int key), .val (.int (0 : Int32)), .val (.int (0 : Int32)), .val (.int (0 : Int32)), .val (.int x)] []) (fun t_ k_ => XS.icmpYes X0.here hx rfl (pc0 := 48) (pc' := 60) rfl (hb hby djdk_65_method_59_code_48) rfl (flt hc48).2.2.2 (by decide) (by decide) k_) ?_
      refine own_st s₁ (mkF m_ 62 #[.val (.ref u), .val (.int (0 : Int32)), .val (.int (1 : Int32)), .val (.int key), .val (.int (0 : Int32)), .val (.int (0 : Int32)), .val (.int (0 : Int32)), .val (.int x)] [(.int (0 : Int32))]) (fun t_ k_ => ?_) ?_
      · refine XS.iload X0.here hx rfl (hb hby djdk_65_method_59_code_60) rfl ?_
        show Steps p_.tables e_ below (s₁.setTop (mkF m_ 62 #[.val (.ref u), .val (.int (0 : Int32)), .val (.int (1 : Int32)), .val (.int key), .val (.int (0 : Int32)), .val (.int (0 : Int32)), .val (.int (0 : Int32)), .val (.int x)] [(.int (0 : Int32))])) t_
        exact k_
      refine own_retI X0 hx hlk hret (hb hby djdk_65_method_59_code_62) (by decide) (by decide) ?_
      rw [e0]
      exact ⟨by simp only [f9, if_neg hc33, if_neg hc48], N0, rfl⟩
theorem djdk_65_method_57_code_0 : decode jdk_65_method_57_code 0 = .ok (.aload_n 0, 1) := by decide +kernel
theorem djdk_65_method_57_code_1 : decode jdk_65_method_57_code 1 = .ok (.iconst 0, 1) := by decide +kernel
theorem djdk_65_method_57_code_2 : decode jdk_65_method_57_code 2 = .ok (.aload_n 0, 1) := by decide +kernel
theorem djdk_65_method_57_code_3 : decode jdk_65_method_57_code 3 = .ok (.arraylength, 1) := by decide +kernel
theorem djdk_65_method_57_code_4 : decode jdk_65_method_57_code 4 = .ok (.iload_n 1, 1) := by decide +kernel
theorem own_pd1 : parseMethodDescriptor "([IIII)I" = some ⟨[(.array .int), .int, .int, .int], some .int⟩ := by decide +kernel
theorem djdk_65_method_57_code_5 : decode jdk_65_method_57_code 5 = .ok (.invokestatic 209, 3) := by decide +kernel
theorem djdk_65_method_57_code_8 : decode jdk_65_method_57_code 8 = .ok (.ireturn, 1) := by decide +kernel
theorem ef_rm8 (m_ : MethodId) (u : Addr) (key : Int32) : entryFrame m_ #[(.ref u), (.int key)] 2 = mkF m_ 0 #[.val (.ref u), .val (.int key)] [] := by first | (simp [entryFrame, mkF, argsToLocals, Value.category]; done) | rfl
set_option maxRecDepth 65536 in
set_option maxHeartbeats 40000000 in
theorem rm8 (l : Launch) (Z : State) (a0 : Array Value) (hw : ∀ d ∈ tables_1, d.before a0 Z = true) (u : Addr) (key : Int32) (ku : ClassId) (x : Int32) (h0 : Heap) (n0 : Nat) (Z0 : n0 ≤ h0.size) (A_u : own_A Z h0 u ku .int 1 (fun x_ => .int (([x] : List Int32).getD x_ 0))) :
    own_Met l Z (⟨"java/util/Arrays", "binarySearch", "([II)I"⟩ : MethodName) jdk_65_method_57_code 2 (some .int) ({ frames := 1, cells := 0, slots := 0, locals := 19 } : Room) #[(.ref u), (.int key)] h0 (fun v h L => v = some (.int (f9 x key)) ∧ Fr n0 L ∧ h = h0) := by
  refine own_body #[.val (.ref u), .val (.int key)] (plainFor_of_name own_pn1) (fun m_ => ef_rm8 m_ u key) ?_
  intro p_ e_ s_ m_ below meth c_ s₁ X0 hx hby hml hret hlk hZ hown hnm e0
  have N0 := Fr.nil n0
  show own_Out p_ e_ below s_ _ _ _ s₁ (mkF m_ 0 #[.val (.ref u), .val (.int key)] [])
  refine own_st s₁ (mkF m_ 5 #[.val (.ref u), .val (.int key)] [(.int key), (.int (1 : Int32)), (.int (0 : Int32)), (.ref u)]) (fun t_ k_ => ?_) ?_
  · refine XS.aloadN X0.here hx rfl (hb hby djdk_65_method_57_code_0) rfl rfl ?_
    show Steps p_.tables e_ below (s₁.setTop (mkF m_ 1 #[.val (.ref u), .val (.int key)] [(.ref u)])) t_
    refine XS.iconst X0.here hx rfl (hb hby djdk_65_method_57_code_1) ?_
    show Steps p_.tables e_ below (s₁.setTop (mkF m_ 2 #[.val (.ref u), .val (.int key)] [(.int (0 : Int32)), (.ref u)])) t_
    refine XS.aloadN X0.here hx rfl (hb hby djdk_65_method_57_code_2) rfl rfl ?_
    show Steps p_.tables e_ below (s₁.setTop (mkF m_ 3 #[.val (.ref u), .val (.int key)] [(.ref u), (.int (0 : Int32)), (.ref u)])) t_
    refine own_len X0 hx hZ e0 A_u (hb hby djdk_65_method_57_code_3) (1 : Int32) (by decide) _ ?_
    show Steps p_.tables e_ below (s₁.setTop (mkF m_ 4 #[.val (.ref u), .val (.int key)] [(.int (1 : Int32)), (.int (0 : Int32)), (.ref u)])) t_
    refine XS.iloadN X0.here hx rfl (hb hby djdk_65_method_57_code_4) rfl ?_
    show Steps p_.tables e_ below (s₁.setTop (mkF m_ 5 #[.val (.ref u), .val (.int key)] [(.int key), (.int (1 : Int32)), (.int (0 : Int32)), (.ref u)])) t_
    exact k_
  refine own_callS X0 hx hZ hown (hw _ (List.mem_of_getElem? (i := 41) rfl)) (hw _ (List.mem_of_getElem? (i := 42) rfl)) (hw _ (List.mem_of_getElem? (i := 39) rfl)) (hw _ (List.mem_of_getElem? (i := 43) rfl)) (by decide) [(.ref u), (.int (0 : Int32)), (.int (1 : Int32)), (.int key)] [] (rm9 l Z a0 hw u key ku x h0 n0 Z0 A_u) 0 (by decide) (by decide) e0 (by rw [hml]; rfl) (lenOf own_pd1 rfl) rfl (Nat.le_of_eq rfl) (hb hby djdk_65_method_57_code_5) (by decide) (by decide) ?_
  intro v1 T1 L1 X1 q1
  obtain ⟨rfl, N1q, e1⟩ := q1
  have N1 := Fr.app N0 N1q
  show own_Out p_ e_ below s_ _ _ _ T1 (mkF m_ 8 #[.val (.ref u), .val (.int key)] [(.int (f9 x key))])
  refine own_retI X1 hx hlk hret (hb hby djdk_65_method_57_code_8) (by decide) (by decide) ?_
  rw [e1]
  exact ⟨rfl, N1, rfl⟩
theorem dprog_66_method_7_code_0 : decode prog_66_method_7_code 0 = .ok (.aload_n 0, 1) := by decide +kernel
theorem dprog_66_method_7_code_1 : decode prog_66_method_7_code 1 = .ok (.getfield 7, 3) := by decide +kernel
theorem dprog_66_method_7_code_4 : decode prog_66_method_7_code 4 = .ok (.iload_n 1, 1) := by decide +kernel
theorem own_pd2 : parseMethodDescriptor "([II)I" = some ⟨[(.array .int), .int], some .int⟩ := by decide +kernel
theorem dprog_66_method_7_code_5 : decode prog_66_method_7_code 5 = .ok (.invokestatic 22, 3) := by decide +kernel
theorem dprog_66_method_7_code_8 : decode prog_66_method_7_code 8 = .ok (.istore_n 2, 1) := by decide +kernel
theorem dprog_66_method_7_code_9 : decode prog_66_method_7_code 9 = .ok (.iload_n 2, 1) := by decide +kernel
theorem dprog_66_method_7_code_10 : decode prog_66_method_7_code 10 = .ok (.ifCond .ge 5, 3) := by decide +kernel
theorem dprog_66_method_7_code_13 : decode prog_66_method_7_code 13 = .ok (.aload_n 0, 1) := by decide +kernel
theorem dprog_66_method_7_code_14 : decode prog_66_method_7_code 14 = .ok (.areturn, 1) := by decide +kernel
theorem ef_rm7d (m_ : MethodId) (a : Addr) (y : Int32) : entryFrame m_ #[(.ref a), (.int y)] 4 = mkF m_ 0 #[.val (.ref a), .val (.int y), .unset, .unset] [] := by first | (simp [entryFrame, mkF, argsToLocals, Value.category]; done) | rfl
set_option maxRecDepth 65536 in
set_option maxHeartbeats 40000000 in
theorem rm7d (l : Launch) (Z : State) (a0 : Array Value) (hw : ∀ d ∈ tables_1, d.before a0 Z = true) (a : Addr) (y : Int32) (u : Addr) (ku : ClassId) (x : Int32) (h0 : Heap) (n0 : Nat) (Z0 : n0 ≤ h0.size) (F_levels_a : Fld Z h0 a "com/example/tabmod/tabmod/tableau/DepSet" "levels" "[I" (.ref u)) (A_u : own_A Z h0 u ku .int 1 (fun x_ => .int (([x] : List Int32).getD x_ 0))) (hne : ¬ x = y) :
    own_Met l Z (⟨"com/example/tabmod/tabmod/tableau/DepSet", "without", "(I)Lcom/example/tabmod/tabmod/tableau/DepSet;"⟩ : MethodName) prog_66_method_7_code 4 (some (.object "com/example/tabmod/tabmod/tableau/DepSet")) ({ frames := 2, cells := 0, slots := 0, locals := 32 } : Room) #[(.ref a), (.int y)] h0 (fun v h L => v = some (.ref a) ∧ Fr n0 L ∧ h = h0) := by
  refine own_body #[.val (.ref a), .val (.int y), .unset, .unset] (plainFor_of_name own_pn0) (fun m_ => ef_rm7d m_ a y) ?_
  intro p_ e_ s_ m_ below meth c_ s₁ X0 hx hby hml hret hlk hZ hown hnm e0
  have N0 := Fr.nil n0
  show own_Out p_ e_ below s_ _ _ _ s₁ (mkF m_ 0 #[.val (.ref a), .val (.int y), .unset, .unset] [])
  refine own_st s₁ (mkF m_ 1 #[.val (.ref a), .val (.int y), .unset, .unset] [(.ref a)]) (fun t_ k_ => ?_) ?_
  · refine XS.aloadN X0.here hx rfl (hb hby dprog_66_method_7_code_0) rfl rfl ?_
    show Steps p_.tables e_ below (s₁.setTop (mkF m_ 1 #[.val (.ref a), .val (.int y), .unset, .unset] [(.ref a)])) t_
    exact k_
  obtain ⟨T1, X1, e1, st1⟩ := getF X0 hx hZ hown (host := "") (Or.inl (hw _ (List.mem_of_getElem? (i := 13) rfl))) Via.refl e0 F_levels_a (g := (mkF m_ 1 #[.val (.ref a), .val (.int y), .unset, .unset] [(.ref a)])) rfl rfl (hb hby dprog_66_method_7_code_1)
  refine own_st T1 (mkF m_ 4 #[.val (.ref a), .val (.int y), .unset, .unset] [(.ref u)]) st1 ?_
  refine own_st T1 (mkF m_ 5 #[.val (.ref a), .val (.int y), .unset, .unset] [(.int y), (.ref u)]) (fun t_ k_ => ?_) ?_
  · refine XS.iloadN X1.here hx rfl (hb hby dprog_66_method_7_code_4) rfl ?_
    show Steps p_.tables e_ below (T1.setTop (mkF m_ 5 #[.val (.ref a), .val (.int y), .unset, .unset] [(.int y), (.ref u)])) t_
    exact k_
  refine own_callS X1 hx hZ hown (hw _ (List.mem_of_getElem? (i := 37) rfl)) (hw _ (List.mem_of_getElem? (i := 38) rfl)) (hw _ (List.mem_of_getElem? (i := 39) rfl)) (hw _ (List.mem_of_getElem? (i := 40) rfl)) (by decide) [(.ref u), (.int y)] [] (rm8 l Z a0 hw u y ku x h0 n0 Z0 A_u) 0 (by decide) (by decide) e1 (by rw [hml]; rfl) (lenOf own_pd2 rfl) rfl (Nat.le_of_eq rfl) (hb hby dprog_66_method_7_code_5) (by decide) (by decide) ?_
  intro v2 T2 L2 X2 q2
  obtain ⟨rfl, N2q, e2⟩ := q2
  have N2 := Fr.app N0 N2q
  show own_Out p_ e_ below s_ _ _ _ T2 (mkF m_ 8 #[.val (.ref a), .val (.int y), .unset, .unset] [(.int (f9 x y))])
  refine own_st T2 (mkF m_ 14 #[.val (.ref a), .val (.int y), .val (.int (f9 x y)), .unset] [(.ref a)]) (fun t_ k_ => ?_) ?_
  · refine XS.istoreN X2.here hx rfl (hb hby dprog_66_method_7_code_8) rfl (l' := #[.val (.ref a), .val (.int y), .val (.int (f9 x y)), .unset]) rfl ?_
    show Steps p_.tables e_ below (T2.setTop (mkF m_ 9 #[.val (.ref a), .val (.int y), .val (.int (f9 x y)), .unset] [])) t_
    refine XS.iloadN X2.here hx rfl (hb hby dprog_66_method_7_code_9) rfl ?_
    show Steps p_.tables e_ below (T2.setTop (mkF m_ 10 #[.val (.ref a), .val (.int y), .val (.int (f9 x y)), .unset] [(.int (f9 x y))])) t_
    refine XS.ifNo X2.here hx rfl (hb hby dprog_66_method_7_code_10) rfl ((if0 _ _).trans (tlt (own_neg hne : (f9 x y) < (0 : Int32))).2.1) ?_
    show Steps p_.tables e_ below (T2.setTop (mkF m_ 13 #[.val (.ref a), .val (.int y), .val (.int (f9 x y)), .unset] [])) t_
    refine XS.aloadN X2.here hx rfl (hb hby dprog_66_method_7_code_13) rfl rfl ?_
    show Steps p_.tables e_ below (T2.setTop (mkF m_ 14 #[.val (.ref a), .val (.int y), .val (.int (f9 x y)), .unset] [(.ref a)])) t_
    exact k_
  refine own_retA X2 hx hlk hret rfl rfl (hb hby dprog_66_method_7_code_14) (by decide) (by decide) ?_
  rw [e2]
  exact ⟨rfl, N2, rfl⟩
theorem dprog_66_method_7_code_15 : decode prog_66_method_7_code 15 = .ok (.aload_n 0, 1) := by decide +kernel
theorem dprog_66_method_7_code_16 : decode prog_66_method_7_code 16 = .ok (.getfield 7, 3) := by decide +kernel
theorem dprog_66_method_7_code_19 : decode prog_66_method_7_code 19 = .ok (.arraylength, 1) := by decide +kernel
theorem dprog_66_method_7_code_20 : decode prog_66_method_7_code 20 = .ok (.iconst 1, 1) := by decide +kernel
theorem dprog_66_method_7_code_21 : decode prog_66_method_7_code 21 = .ok (.isub, 1) := by decide +kernel
theorem dprog_66_method_7_code_22 : decode prog_66_method_7_code 22 = .ok (.newarray .int, 2) := by decide +kernel
theorem dprog_66_method_7_code_24 : decode prog_66_method_7_code 24 = .ok (.astore_n 3, 1) := by decide +kernel
theorem dprog_66_method_7_code_25 : decode prog_66_method_7_code 25 = .ok (.aload_n 0, 1) := by decide +kernel
theorem dprog_66_method_7_code_26 : decode prog_66_method_7_code 26 = .ok (.getfield 7, 3) := by decide +kernel
theorem dprog_66_method_7_code_29 : decode prog_66_method_7_code 29 = .ok (.iconst 0, 1) := by decide +kernel
theorem dprog_66_method_7_code_30 : decode prog_66_method_7_code 30 = .ok (.aload_n 3, 1) := by decide +kernel
theorem dprog_66_method_7_code_31 : decode prog_66_method_7_code 31 = .ok (.iconst 0, 1) := by decide +kernel
theorem dprog_66_method_7_code_32 : decode prog_66_method_7_code 32 = .ok (.iload_n 2, 1) := by decide +kernel
theorem dprog_66_method_7_code_33 : decode prog_66_method_7_code 33 = .ok (.invokestatic 28, 3) := by decide +kernel
theorem dprog_66_method_7_code_36 : decode prog_66_method_7_code 36 = .ok (.aload_n 0, 1) := by decide +kernel
theorem dprog_66_method_7_code_37 : decode prog_66_method_7_code 37 = .ok (.getfield 7, 3) := by decide +kernel
theorem dprog_66_method_7_code_40 : decode prog_66_method_7_code 40 = .ok (.iload_n 2, 1) := by decide +kernel
theorem dprog_66_method_7_code_41 : decode prog_66_method_7_code 41 = .ok (.iconst 1, 1) := by decide +kernel
theorem dprog_66_method_7_code_42 : decode prog_66_method_7_code 42 = .ok (.iadd, 1) := by decide +kernel
theorem dprog_66_method_7_code_43 : decode prog_66_method_7_code 43 = .ok (.aload_n 3, 1) := by decide +kernel
theorem dprog_66_method_7_code_44 : decode prog_66_method_7_code 44 = .ok (.iload_n 2, 1) := by decide +kernel
theorem dprog_66_method_7_code_45 : decode prog_66_method_7_code 45 = .ok (.aload_n 3, 1) := by decide +kernel
theorem dprog_66_method_7_code_46 : decode prog_66_method_7_code 46 = .ok (.arraylength, 1) := by decide +kernel
theorem dprog_66_method_7_code_47 : decode prog_66_method_7_code 47 = .ok (.iload_n 2, 1) := by decide +kernel
theorem dprog_66_method_7_code_48 : decode prog_66_method_7_code 48 = .ok (.isub, 1) := by decide +kernel
theorem dprog_66_method_7_code_49 : decode prog_66_method_7_code 49 = .ok (.invokestatic 28, 3) := by decide +kernel
theorem dprog_66_method_7_code_52 : decode prog_66_method_7_code 52 = .ok (.new 8, 3) := by decide +kernel
theorem dprog_66_method_7_code_55 : decode prog_66_method_7_code 55 = .ok (.dup, 1) := by decide +kernel
theorem dprog_66_method_7_code_56 : decode prog_66_method_7_code 56 = .ok (.aload_n 3, 1) := by decide +kernel
theorem dprog_66_method_7_code_57 : decode prog_66_method_7_code 57 = .ok (.invokespecial 13, 3) := by decide +kernel
theorem dprog_66_method_7_code_60 : decode prog_66_method_7_code 60 = .ok (.areturn, 1) := by decide +kernel
theorem ef_rm7s (m_ : MethodId) (a : Addr) (x : Int32) : entryFrame m_ #[(.ref a), (.int x)] 4 = mkF m_ 0 #[.val (.ref a), .val (.int x), .unset, .unset] [] := by first | (simp [entryFrame, mkF, argsToLocals, Value.category]; done) | rfl
set_option maxRecDepth 65536 in
set_option maxHeartbeats 40000000 in
theorem rm7s (l : Launch) (Z : State) (a0 : Array Value) (hw : ∀ d ∈ tables_1, d.before a0 Z = true) (a : Addr) (x : Int32) (u : Addr) (ku : ClassId) (h0 : Heap) (n0 : Nat) (Z0 : n0 ≤ h0.size) (F_levels_a : Fld Z h0 a "com/example/tabmod/tabmod/tableau/DepSet" "levels" "[I" (.ref u)) (A_u : own_A Z h0 u ku .int 1 (fun x_ => .int (([x] : List Int32).getD x_ 0))) :
    own_Met l Z (⟨"com/example/tabmod/tabmod/tableau/DepSet", "without", "(I)Lcom/example/tabmod/tabmod/tableau/DepSet;"⟩ : MethodName) prog_66_method_7_code 4 (some (.object "com/example/tabmod/tabmod/tableau/DepSet")) ({ frames := 2, cells := 2, slots := 1, locals := 40 } : Room) #[(.ref a), (.int x)] h0 (fun v h L => ∃ (b t : Addr) (kt : ClassId), v = some (.ref b) ∧ n0 ≤ b ∧ n0 ≤ t ∧ Fr n0 L ∧ Keep h0 h [] ∧ Exa Z h b "com/example/tabmod/tabmod/tableau/DepSet" ∧ Fld Z h b "com/example/tabmod/tabmod/tableau/DepSet" "levels" "[I" (.ref t) ∧ own_A Z h t kt .int 0 (fun x_ => .int (([] : List Int32).getD x_ 0))) := by
  refine own_body #[.val (.ref a), .val (.int x), .unset, .unset] (plainFor_of_name own_pn0) (fun m_ => ef_rm7s m_ a x) ?_
  intro p_ e_ s_ m_ below meth c_ s₁ X0 hx hby hml hret hlk hZ hown hnm e0
  have N0 := Fr.nil n0
  have KP := Keep.refl h0 []
  show own_Out p_ e_ below s_ _ _ _ s₁ (mkF m_ 0 #[.val (.ref a), .val (.int x), .unset, .unset] [])
  refine own_st s₁ (mkF m_ 1 #[.val (.ref a), .val (.int x), .unset, .unset] [(.ref a)]) (fun t_ k_ => ?_) ?_
  · refine XS.aloadN X0.here hx rfl (hb hby dprog_66_method_7_code_0) rfl rfl ?_
    show Steps p_.tables e_ below (s₁.setTop (mkF m_ 1 #[.val (.ref a), .val (.int x), .unset, .unset] [(.ref a)])) t_
    exact k_
  obtain ⟨T1, X1, e1, st1⟩ := getF X0 hx hZ hown (host := "") (Or.inl (hw _ (List.mem_of_getElem? (i := 13) rfl))) Via.refl e0 F_levels_a (g := (mkF m_ 1 #[.val (.ref a), .val (.int x), .unset, .unset] [(.ref a)])) rfl rfl (hb hby dprog_66_method_7_code_1)
  refine own_st T1 (mkF m_ 4 #[.val (.ref a), .val (.int x), .unset, .unset] [(.ref u)]) st1 ?_
  refine own_st T1 (mkF m_ 5 #[.val (.ref a), .val (.int x), .unset, .unset] [(.int x), (.ref u)]) (fun t_ k_ => ?_) ?_
  · refine XS.iloadN X1.here hx rfl (hb hby dprog_66_method_7_code_4) rfl ?_
    show Steps p_.tables e_ below (T1.setTop (mkF m_ 5 #[.val (.ref a), .val (.int x), .unset, .unset] [(.int x), (.ref u)])) t_
    exact k_
  refine own_callS X1 hx hZ hown (hw _ (List.mem_of_getElem? (i := 37) rfl)) (hw _ (List.mem_of_getElem? (i := 38) rfl)) (hw _ (List.mem_of_getElem? (i := 39) rfl)) (hw _ (List.mem_of_getElem? (i := 40) rfl)) (by decide) [(.ref u), (.int x)] [] (rm8 l Z a0 hw u x ku x h0 n0 Z0 A_u) 0 (by decide) (by decide) e1 (by rw [hml]; rfl) (lenOf own_pd2 rfl) rfl (Nat.le_of_eq rfl) (hb hby dprog_66_method_7_code_5) (by decide) (by decide) ?_
  intro v2 T2 L2 X2 q2
  obtain ⟨rfl, N2q, e2⟩ := q2
  have N2 := Fr.app N0 N2q
  rw [own_f9s x]
  show own_Out p_ e_ below s_ _ _ _ T2 (mkF m_ 8 #[.val (.ref a), .val (.int x), .unset, .unset] [(.int (0 : Int32))])
  refine own_st T2 (mkF m_ 16 #[.val (.ref a), .val (.int x), .val (.int (0 : Int32)), .unset] [(.ref a)]) (fun t_ k_ => ?_) ?_
  · refine XS.istoreN X2.here hx rfl (hb hby dprog_66_method_7_code_8) rfl (l' := #[.val (.ref a), .val (.int x), .val (.int (0 : Int32)), .unset]) rfl ?_
    show Steps p_.tables e_ below (T2.setTop (mkF m_ 9 #[.val (.ref a), .val (.int x), .val (.int (0 : Int32)), .unset] [])) t_
    refine XS.iloadN X2.here hx rfl (hb hby dprog_66_method_7_code_9) rfl ?_
    show Steps p_.tables e_ below (T2.setTop (mkF m_ 10 #[.val (.ref a), .val (.int x), .val (.int (0 : Int32)), .unset] [(.int (0 : Int32))])) t_
    refine XS.ifYes X2.here hx rfl (pc0 := 10) (pc' := 15) rfl (hb hby dprog_66_method_7_code_10) rfl ((if0 _ _).trans (flt (by decide : ¬ ((0 : Int32) < (0 : Int32)))).2.1) (by decide) (by decide) ?_
    show Steps p_.tables e_ below (T2.setTop (mkF m_ 15 #[.val (.ref a), .val (.int x), .val (.int (0 : Int32)), .unset] [])) t_
    refine XS.aloadN X2.here hx rfl (hb hby dprog_66_method_7_code_15) rfl rfl ?_
    show Steps p_.tables e_ below (T2.setTop (mkF m_ 16 #[.val (.ref a), .val (.int x), .val (.int (0 : Int32)), .unset] [(.ref a)])) t_
    exact k_
  obtain ⟨T3, X3, e3, st3⟩ := getF X2 hx hZ hown (host := "") (Or.inl (hw _ (List.mem_of_getElem? (i := 13) rfl))) Via.refl e2 F_levels_a (g := (mkF m_ 16 #[.val (.ref a), .val (.int x), .val (.int (0 : Int32)), .unset] [(.ref a)])) rfl rfl (hb hby dprog_66_method_7_code_16)
  refine own_st T3 (mkF m_ 19 #[.val (.ref a), .val (.int x), .val (.int (0 : Int32)), .unset] [(.ref u)]) st3 ?_
  refine own_st T3 (mkF m_ 22 #[.val (.ref a), .val (.int x), .val (.int (0 : Int32)), .unset] [(.int (0 : Int32))]) (fun t_ k_ => ?_) ?_
  · refine own_len X3 hx hZ e3 A_u (hb hby dprog_66_method_7_code_19) (1 : Int32) (by decide) _ ?_
    show Steps p_.tables e_ below (T3.setTop (mkF m_ 20 #[.val (.ref a), .val (.int x), .val (.int (0 : Int32)), .unset] [(.int (1 : Int32))])) t_
    refine XS.iconst X3.here hx rfl (hb hby dprog_66_method_7_code_20) ?_
    show Steps p_.tables e_ below (T3.setTop (mkF m_ 21 #[.val (.ref a), .val (.int x), .val (.int (0 : Int32)), .unset] [(.int (1 : Int32)), (.int (1 : Int32))])) t_
    refine XS.isub X3.here hx rfl (hb hby dprog_66_method_7_code_21) rfl ?_
    show Steps p_.tables e_ below (T3.setTop (mkF m_ 22 #[.val (.ref a), .val (.int x), .val (.int (0 : Int32)), .unset] [(.int (0 : Int32))])) t_
    exact k_
  obtain ⟨T4, h4, k4, X4, e4, E4, A4, st4⟩ := newP X3 hx hZ (hw _ (List.mem_of_getElem? (i := 6) rfl)) e3 (g := (mkF m_ 22 #[.val (.ref a), .val (.int x), .val (.int (0 : Int32)), .unset] [(.int (0 : Int32))])) rfl (hb hby dprog_66_method_7_code_22) rfl (by decide) (cap := 0) (by decide) (by decide) (by decide) (by decide)
  obtain ⟨b4, g4⟩ : ∃ z, z = h0.size := ⟨_, rfl⟩
  rw [← g4] at A4 st4
  have g_b4 : n0 ≤ b4 := g4 ▸ Z0
  have sz_b4 : h0.size ≤ b4 := g4 ▸ KP.1
  have ne_a_b4 : a ≠ b4 := Nat.ne_of_lt (Nat.lt_of_lt_of_le F_levels_a.lt (Nat.le_of_eq g4.symm))
  have ne_u_b4 : u ≠ b4 := Nat.ne_of_lt (Nat.lt_of_lt_of_le A_u.lt (Nat.le_of_eq g4.symm))
  replace KP := KP.ext E4
  replace F_levels_a := F_levels_a.ext E4
  replace A_u := A_u.ext E4
  replace Z0 : n0 ≤ h4.size := Nat.le_trans Z0 E4.1
  have A_b4 : own_A Z h4 b4 k4 .int 0 (fun x_ => .int (([] : List Int32).getD x_ 0)) := own_A.newLI A4 (by decide) 0 (by decide) rfl
  refine own_st T4 (mkF m_ 24 #[.val (.ref a), .val (.int x), .val (.int (0 : Int32)), .unset] [(.ref b4)]) st4 ?_
  refine own_st T4 (mkF m_ 26 #[.val (.ref a), .val (.int x), .val (.int (0 : Int32)), .val (.ref b4)] [(.ref a)]) (fun t_ k_ => ?_) ?_
  · refine XS.astoreN X4.here hx rfl (hb hby dprog_66_method_7_code_24) rfl rfl (l' := #[.val (.ref a), .val (.int x), .val (.int (0 : Int32)), .val (.ref b4)]) rfl ?_
    show Steps p_.tables e_ below (T4.setTop (mkF m_ 25 #[.val (.ref a), .val (.int x), .val (.int (0 : Int32)), .val (.ref b4)] [])) t_
    refine XS.aloadN X4.here hx rfl (hb hby dprog_66_method_7_code_25) rfl rfl ?_
    show Steps p_.tables e_ below (T4.setTop (mkF m_ 26 #[.val (.ref a), .val (.int x), .val (.int (0 : Int32)), .val (.ref b4)] [(.ref a)])) t_
    exact k_
  obtain ⟨T5, X5, e5, st5⟩ := getF X4 hx hZ hown (host := "") (Or.inl (hw _ (List.mem_of_getElem? (i := 13) rfl))) Via.refl e4 F_levels_a (g := (mkF m_ 26 #[.val (.ref a), .val (.int x), .val (.int (0 : Int32)), .val (.ref b4)] [(.ref a)])) rfl rfl (hb hby dprog_66_method_7_code_26)
  refine own_st T5 (mkF m_ 29 #[.val (.ref a), .val (.int x), .val (.int (0 : Int32)), .val (.ref b4)] [(.ref u)]) st5 ?_
  refine own_st T5 (mkF m_ 33 #[.val (.ref a), .val (.int x), .val (.int (0 : Int32)), .val (.ref b4)] [(.int (0 : Int32)), (.int (0 : Int32)), (.ref b4), (.int (0 : Int32)), (.ref u)]) (fun t_ k_ => ?_) ?_
  · refine XS.iconst X5.here hx rfl (hb hby dprog_66_method_7_code_29) ?_
    show Steps p_.tables e_ below (T5.setTop (mkF m_ 30 #[.val (.ref a), .val (.int x), .val (.int (0 : Int32)), .val (.ref b4)] [(.int (0 : Int32)), (.ref u)])) t_
    refine XS.aloadN X5.here hx rfl (hb hby dprog_66_method_7_code_30) rfl rfl ?_
    show Steps p_.tables e_ below (T5.setTop (mkF m_ 31 #[.val (.ref a), .val (.int x), .val (.int (0 : Int32)), .val (.ref b4)] [(.ref b4), (.int (0 : Int32)), (.ref u)])) t_
    refine XS.iconst X5.here hx rfl (hb hby dprog_66_method_7_code_31) ?_
    show Steps p_.tables e_ below (T5.setTop (mkF m_ 32 #[.val (.ref a), .val (.int x), .val (.int (0 : Int32)), .val (.ref b4)] [(.int (0 : Int32)), (.ref b4), (.int (0 : Int32)), (.ref u)])) t_
    refine XS.iloadN X5.here hx rfl (hb hby dprog_66_method_7_code_32) rfl ?_
    show Steps p_.tables e_ below (T5.setTop (mkF m_ 33 #[.val (.ref a), .val (.int x), .val (.int (0 : Int32)), .val (.ref b4)] [(.int (0 : Int32)), (.int (0 : Int32)), (.ref b4), (.int (0 : Int32)), (.ref u)])) t_
    exact k_
  obtain ⟨T6, h6, L6, X6, e6, N6, K6, Aq6, st6⟩ := own_cp0 X5 hx hZ hown (hw _ (List.mem_of_getElem? (i := 44) rfl)) (hw _ (List.mem_of_getElem? (i := 47) rfl)) (hw _ (List.mem_of_getElem? (i := 45) rfl)) (hw _ (List.mem_of_getElem? (i := 46) rfl)) e5 A_u A_b4 (sp := (0 : Int32)) (by decide) N2 g_b4 (pc := 33) (Ls := #[.val (.ref a), .val (.int x), .val (.int (0 : Int32)), .val (.ref b4)]) (rest := []) (by rw [hml]; rfl) (hb hby dprog_66_method_7_code_33) (by decide) (W := 0) (Nat.le_of_eq rfl) (by decide)
  replace KP := KP.trans K6 (allS (Or.inr sz_b4) all0)
  replace F_levels_a := F_levels_a.keep K6 (ninS ne_a_b4 nin0)
  replace A_u := A_u.keep K6 (ninS ne_u_b4 nin0)
  -- A_b4 is dropped: written by the callee
  have A_b4 := Aq6
  replace Z0 : n0 ≤ h6.size := Nat.le_trans Z0 K6.1
  refine own_st T6 (mkF m_ 36 #[.val (.ref a), .val (.int x), .val (.int (0 : Int32)), .val (.ref b4)] []) st6 ?_
  refine own_st T6 (mkF m_ 37 #[.val (.ref a), .val (.int x), .val (.int (0 : Int32)), .val (.ref b4)] [(.ref a)]) (fun t_ k_ => ?_) ?_
  · refine XS.aloadN X6.here hx rfl (hb hby dprog_66_method_7_code_36) rfl rfl ?_
    show Steps p_.tables e_ below (T6.setTop (mkF m_ 37 #[.val (.ref a), .val (.int x), .val (.int (0 : Int32)), .val (.ref b4)] [(.ref a)])) t_
    exact k_
  obtain ⟨T7, X7, e7, st7⟩ := getF X6 hx hZ hown (host := "") (Or.inl (hw _ (List.mem_of_getElem? (i := 13) rfl))) Via.refl e6 F_levels_a (g := (mkF m_ 37 #[.val (.ref a), .val (.int x), .val (.int (0 : Int32)), .val (.ref b4)] [(.ref a)])) rfl rfl (hb hby dprog_66_method_7_code_37)
  refine own_st T7 (mkF m_ 40 #[.val (.ref a), .val (.int x), .val (.int (0 : Int32)), .val (.ref b4)] [(.ref u)]) st7 ?_
  refine own_st T7 (mkF m_ 49 #[.val (.ref a), .val (.int x), .val (.int (0 : Int32)), .val (.ref b4)] [(.int (0 : Int32)), (.int (0 : Int32)), (.ref b4), (.int (1 : Int32)), (.ref u)]) (fun t_ k_ => ?_) ?_
  · refine XS.iloadN X7.here hx rfl (hb hby dprog_66_method_7_code_40) rfl ?_
    show Steps p_.tables e_ below (T7.setTop (mkF m_ 41 #[.val (.ref a), .val (.int x), .val (.int (0 : Int32)), .val (.ref b4)] [(.int (0 : Int32)), (.ref u)])) t_
    refine XS.iconst X7.here hx rfl (hb hby dprog_66_method_7_code_41) ?_
    show Steps p_.tables e_ below (T7.setTop (mkF m_ 42 #[.val (.ref a), .val (.int x), .val (.int (0 : Int32)), .val (.ref b4)] [(.int (1 : Int32)), (.int (0 : Int32)), (.ref u)])) t_
    refine XS.iadd X7.here hx rfl (hb hby dprog_66_method_7_code_42) rfl ?_
    show Steps p_.tables e_ below (T7.setTop (mkF m_ 43 #[.val (.ref a), .val (.int x), .val (.int (0 : Int32)), .val (.ref b4)] [(.int (1 : Int32)), (.ref u)])) t_
    refine XS.aloadN X7.here hx rfl (hb hby dprog_66_method_7_code_43) rfl rfl ?_
    show Steps p_.tables e_ below (T7.setTop (mkF m_ 44 #[.val (.ref a), .val (.int x), .val (.int (0 : Int32)), .val (.ref b4)] [(.ref b4), (.int (1 : Int32)), (.ref u)])) t_
    refine XS.iloadN X7.here hx rfl (hb hby dprog_66_method_7_code_44) rfl ?_
    show Steps p_.tables e_ below (T7.setTop (mkF m_ 45 #[.val (.ref a), .val (.int x), .val (.int (0 : Int32)), .val (.ref b4)] [(.int (0 : Int32)), (.ref b4), (.int (1 : Int32)), (.ref u)])) t_
    refine XS.aloadN X7.here hx rfl (hb hby dprog_66_method_7_code_45) rfl rfl ?_
    show Steps p_.tables e_ below (T7.setTop (mkF m_ 46 #[.val (.ref a), .val (.int x), .val (.int (0 : Int32)), .val (.ref b4)] [(.ref b4), (.int (0 : Int32)), (.ref b4), (.int (1 : Int32)), (.ref u)])) t_
    refine own_len X7 hx hZ e7 A_b4 (hb hby dprog_66_method_7_code_46) (0 : Int32) (by decide) _ ?_
    show Steps p_.tables e_ below (T7.setTop (mkF m_ 47 #[.val (.ref a), .val (.int x), .val (.int (0 : Int32)), .val (.ref b4)] [(.int (0 : Int32)), (.int (0 : Int32)), (.ref b4), (.int (1 : Int32)), (.ref u)])) t_
    refine XS.iloadN X7.here hx rfl (hb hby dprog_66_method_7_code_47) rfl ?_
    show Steps p_.tables e_ below (T7.setTop (mkF m_ 48 #[.val (.ref a), .val (.int x), .val (.int (0 : Int32)), .val (.ref b4)] [(.int (0 : Int32)), (.int (0 : Int32)), (.int (0 : Int32)), (.ref b4), (.int (1 : Int32)), (.ref u)])) t_
    refine XS.isub X7.here hx rfl (hb hby dprog_66_method_7_code_48) rfl ?_
    show Steps p_.tables e_ below (T7.setTop (mkF m_ 49 #[.val (.ref a), .val (.int x), .val (.int (0 : Int32)), .val (.ref b4)] [(.int (0 : Int32)), (.int (0 : Int32)), (.ref b4), (.int (1 : Int32)), (.ref u)])) t_
    exact k_
  obtain ⟨T8, h8, L8, X8, e8, N8, K8, Aq8, st8⟩ := own_cp0 X7 hx hZ hown (hw _ (List.mem_of_getElem? (i := 44) rfl)) (hw _ (List.mem_of_getElem? (i := 47) rfl)) (hw _ (List.mem_of_getElem? (i := 45) rfl)) (hw _ (List.mem_of_getElem? (i := 46) rfl)) e7 A_u A_b4 (sp := (1 : Int32)) (by decide) N6 g_b4 (pc := 49) (Ls := #[.val (.ref a), .val (.int x), .val (.int (0 : Int32)), .val (.ref b4)]) (rest := []) (by rw [hml]; rfl) (hb hby dprog_66_method_7_code_49) (by decide) (W := 0) (Nat.le_of_eq rfl) (by decide)
  replace KP := KP.trans K8 (allS (Or.inr sz_b4) all0)
  replace F_levels_a := F_levels_a.keep K8 (ninS ne_a_b4 nin0)
  replace A_u := A_u.keep K8 (ninS ne_u_b4 nin0)
  -- A_b4 is dropped: written by the callee
  have A_b4 := Aq8
  replace Z0 : n0 ≤ h8.size := Nat.le_trans Z0 K8.1
  refine own_st T8 (mkF m_ 52 #[.val (.ref a), .val (.int x), .val (.int (0 : Int32)), .val (.ref b4)] []) st8 ?_
  obtain ⟨T9, h9, X9, e9, E9, A9, D9, -, st9⟩ := newO X8 hx hZ hown (hw _ (List.mem_of_getElem? (i := 4) rfl)) (hw _ (List.mem_of_getElem? (i := 5) rfl)) (hw _ (List.mem_of_getElem? (i := 2) rfl)) e8 (g := (mkF m_ 52 #[.val (.ref a), .val (.int x), .val (.int (0 : Int32)), .val (.ref b4)] [])) rfl (hb hby dprog_66_method_7_code_52) (by decide) (by decide)
  obtain ⟨b9, g9⟩ : ∃ z, z = h8.size := ⟨_, rfl⟩
  rw [← g9] at A9 D9 st9
  have g_b9 : n0 ≤ b9 := g9 ▸ Z0
  have sz_b9 : h0.size ≤ b9 := g9 ▸ KP.1
  have ne_a_b9 : a ≠ b9 := Nat.ne_of_lt (Nat.lt_of_lt_of_le F_levels_a.lt (Nat.le_of_eq g9.symm))
  have ne_u_b9 : u ≠ b9 := Nat.ne_of_lt (Nat.lt_of_lt_of_le A_u.lt (Nat.le_of_eq g9.symm))
  have ne_b4_b9 : b4 ≠ b9 := Nat.ne_of_lt (Nat.lt_of_lt_of_le A_b4.lt (Nat.le_of_eq g9.symm))
  replace KP := KP.ext E9
  replace F_levels_a := F_levels_a.ext E9
  replace A_u := A_u.ext E9
  replace A_b4 := A_b4.ext E9
  replace Z0 : n0 ≤ h9.size := Nat.le_trans Z0 E9.1
  have F_levels_b9 : Fld Z h9 b9 "com/example/tabmod/tabmod/tableau/DepSet" "levels" "[I" .null := D9 (Or.inr (hw _ (List.mem_of_getElem? (i := 14) rfl))) (ty := (.array .int)) (by decide)
  have E_b9 := A9
  refine own_st T9 (mkF m_ 55 #[.val (.ref a), .val (.int x), .val (.int (0 : Int32)), .val (.ref b4)] [(.ref b9)]) st9 ?_
  refine own_st T9 (mkF m_ 57 #[.val (.ref a), .val (.int x), .val (.int (0 : Int32)), .val (.ref b4)] [(.ref b4), (.ref b9), (.ref b9)]) (fun t_ k_ => ?_) ?_
  · refine XS.dup X9.here hx rfl (hb hby dprog_66_method_7_code_55) rfl rfl ?_
    show Steps p_.tables e_ below (T9.setTop (mkF m_ 56 #[.val (.ref a), .val (.int x), .val (.int (0 : Int32)), .val (.ref b4)] [(.ref b9), (.ref b9)])) t_
    refine XS.aloadN X9.here hx rfl (hb hby dprog_66_method_7_code_56) rfl rfl ?_
    show Steps p_.tables e_ below (T9.setTop (mkF m_ 57 #[.val (.ref a), .val (.int x), .val (.int (0 : Int32)), .val (.ref b4)] [(.ref b4), (.ref b9), (.ref b9)])) t_
    exact k_
  refine own_callC X9 hx hZ rfl hown (hw _ (List.mem_of_getElem? (i := 7) rfl)) (hw _ (List.mem_of_getElem? (i := 8) rfl)) (hw _ (List.mem_of_getElem? (i := 2) rfl)) (hw _ (List.mem_of_getElem? (i := 9) rfl)) (by decide) b9 [(.ref b4)] [(.ref b9)] (rm2 l Z a0 hw b9 b4 h9 n0 Z0 E_b9 F_levels_b9 g_b9) 1 (by decide) (by decide) e9 (by rw [hml]; rfl) (lenOf own_pd0 rfl) rfl (Nat.le_of_eq rfl) (hb hby dprog_66_method_7_code_57) (by decide) (by decide) ?_
  intro v10 T10 L10 X10 q10
  obtain ⟨rfl, N10q, K10, Eq10, Fq10_levels⟩ := q10
  have N10 := Fr.app N8 N10q
  replace KP := KP.trans K10 (allS (Or.inr sz_b9) all0)
  replace F_levels_a := F_levels_a.keep K10 (ninS ne_a_b9 nin0)
  replace A_u := A_u.keep K10 (ninS ne_u_b9 nin0)
  replace A_b4 := A_b4.keep K10 (ninS ne_b4_b9 nin0)
  -- F_levels_b9 is dropped: written by the callee
  replace E_b9 := E_b9.keep K10
  replace Z0 : n0 ≤ T10.heap.size := Nat.le_trans Z0 K10.1
  have F_levels_b9 := Fq10_levels
  show own_Out p_ e_ below s_ _ _ _ T10 (mkF m_ 60 #[.val (.ref a), .val (.int x), .val (.int (0 : Int32)), .val (.ref b4)] [(.ref b9)])
  refine own_retA X10 hx hlk hret rfl rfl (hb hby dprog_66_method_7_code_60) (by decide) (by decide) ?_
  exact ⟨b9, b4, _, rfl, g_b9, g_b4, N10, KP, E_b9, F_levels_b9, A_b4⟩
def own_b (a : Int32) (c : Int32) (f : Int32) : Int32 := (if (f &&& (1 : Int32)) = (0 : Int32) then c else a)
theorem own_pd3 : parseMethodDescriptor "(I)Lcom/example/tabmod/tabmod/tableau/DepSet;" = some ⟨[.int], some (.object "com/example/tabmod/tabmod/tableau/DepSet")⟩ := by decide +kernel
theorem own_pd4 : parseMethodDescriptor "()Z" = some ⟨[], some .boolean⟩ := by decide +kernel
theorem own_pd5 : parseMethodDescriptor "()I" = some ⟨[], some .int⟩ := by decide +kernel
theorem own_pd6 : parseMethodDescriptor "(Lcom/example/tabmod/tabmod/tableau/DepSet;)Z" = some ⟨[(.object "com/example/tabmod/tabmod/tableau/DepSet")], some .boolean⟩ := by decide +kernel
theorem ef_rm0 (m_ : MethodId) (a : Int32) (c : Int32) (f : Int32) : entryFrame m_ #[(.int a), (.int c), (.int f)] maxLocals = mkF m_ 0 #[.val (.int a), .val (.int c), .val (.int f), .unset, .unset, .unset, .unset, .unset] [] := by first | (simp [entryFrame, mkF, argsToLocals, Value.category, maxLocals]; done) | rfl
theorem own_pn2 : plainName "com/example/tabmod/tabmod/tableau/DepSetOfPinLaw" = true := by first | (simp [plainName, overriddenIn]; done) | decide +kernel
set_option maxRecDepth 65536 in
set_option maxHeartbeats 40000000 in
theorem rm0 (l : Launch) (Z : State) (a0 : Array Value) (hw : ∀ d ∈ tables_1, d.before a0 Z = true) (a : Int32) (c : Int32) (f : Int32) (em el : Addr) (ke : ClassId) (h0 : Heap) (n0 : Nat) (Z0 : n0 ≤ h0.size) (O : Old Z n0 h0) (S_EMPTY : Sta Z Z.heap "com/example/tabmod/tabmod/tableau/DepSet" "EMPTY" "Lcom/example/tabmod/tabmod/tableau/DepSet;" (.ref em)) (F_em : Fld Z Z.heap em "com/example/tabmod/tabmod/tableau/DepSet" "levels" "[I" (.ref el)) (A_el : own_A Z Z.heap el ke .int 0 (fun x_ => .int (([] : List Int32).getD x_ 0))) :
    own_Met l Z x code maxLocals ret room_1 #[(.int a), (.int c), (.int f)] h0 (fun v h L => v = some (.int 1) ∧ Fr n0 L) := by
  refine own_body #[.val (.int a), .val (.int c), .val (.int f), .unset, .unset, .unset, .unset, .unset] (plainFor_of_name own_pn2) (fun m_ => ef_rm0 m_ a c f) ?_
  intro p_ e_ s_ m_ below meth c_ s₁ X0 hx hby hml hret hlk hZ hown hnm e0
  have N0 := Fr.nil n0
  show own_Out p_ e_ below s_ _ _ _ s₁ (mkF m_ 0 #[.val (.int a), .val (.int c), .val (.int f), .unset, .unset, .unset, .unset, .unset] [])
  refine own_st s₁ (mkF m_ 12 #[.val (.int a), .val (.int c), .val (.int f), .val (.int (own_b a c f)), .unset, .unset, .unset, .unset] []) (fun t_ k_ => ?_) ?_
  · refine XS.iloadN X0.here hx rfl (hb hby at_0) rfl ?_
    show Steps p_.tables e_ below (s₁.setTop (mkF m_ 1 #[.val (.int a), .val (.int c), .val (.int f), .unset, .unset, .unset, .unset, .unset] [(.int f)])) t_
    refine XS.iconst X0.here hx rfl (hb hby at_1) ?_
    show Steps p_.tables e_ below (s₁.setTop (mkF m_ 2 #[.val (.int a), .val (.int c), .val (.int f), .unset, .unset, .unset, .unset, .unset] [(.int (1 : Int32)), (.int f)])) t_
    refine XS.iand X0.here hx rfl (hb hby at_2) rfl ?_
    show Steps p_.tables e_ below (s₁.setTop (mkF m_ 3 #[.val (.int a), .val (.int c), .val (.int f), .unset, .unset, .unset, .unset, .unset] [(.int (f &&& (1 : Int32)))])) t_
    have jn3 : ∀ t_, Steps p_.tables e_ below (s₁.setTop (mkF m_ 11 #[.val (.int a), .val (.int c), .val (.int f), .unset, .unset, .unset, .unset, .unset] [(.int (own_b a c f))])) t_ → Steps p_.tables e_ below (s₁.setTop (mkF m_ 3 #[.val (.int a), .val (.int c), .val (.int f), .unset, .unset, .unset, .unset, .unset] [(.int (f &&& (1 : Int32)))])) t_ := by
      intro t_ k_
      by_cases hc3 : (f &&& (1 : Int32)) = (0 : Int32)
      · refine XS.ifYes X0.here hx rfl (pc0 := 3) (pc' := 10) rfl (hb hby at_3) rfl ((if0 _ _).trans (teq hc3).1) (by decide) (by decide) ?_
        show Steps p_.tables e_ below (s₁.setTop (mkF m_ 10 #[.val (.int a), .val (.int c), .val (.int f), .unset, .unset, .unset, .unset, .unset] [])) t_
        refine XS.iloadN X0.here hx rfl (hb hby at_10) rfl ?_
        show Steps p_.tables e_ below (s₁.setTop (mkF m_ 11 #[.val (.int a), .val (.int c), .val (.int f), .unset, .unset, .unset, .unset, .unset] [(.int c)])) t_
        simp only [own_b, if_pos hc3] at k_
        exact k_
      · refine XS.ifNo X0.here hx rfl (hb hby at_3) rfl ((if0 _ _).trans (feq hc3).1) ?_
        show Steps p_.tables e_ below (s₁.setTop (mkF m_ 6 #[.val (.int a), .val (.int c), .val (.int f), .unset, .unset, .unset, .unset, .unset] [])) t_
        refine XS.iloadN X0.here hx rfl (hb hby at_6) rfl ?_
        show Steps p_.tables e_ below (s₁.setTop (mkF m_ 7 #[.val (.int a), .val (.int c), .val (.int f), .unset, .unset, .unset, .unset, .unset] [(.int a)])) t_
        refine XS.goto X0.here hx rfl (pc0 := 7) (pc' := 11) rfl (hb hby at_7) (by decide) (by decide) ?_
        show Steps p_.tables e_ below (s₁.setTop (mkF m_ 11 #[.val (.int a), .val (.int c), .val (.int f), .unset, .unset, .unset, .unset, .unset] [(.int a)])) t_
        simp only [own_b, if_neg hc3] at k_
        exact k_
    refine jn3 _ ?_
    show Steps p_.tables e_ below (s₁.setTop (mkF m_ 11 #[.val (.int a), .val (.int c), .val (.int f), .unset, .unset, .unset, .unset, .unset] [(.int (own_b a c f))])) t_
    refine XS.istoreN X0.here hx rfl (hb hby at_11) rfl (l' := #[.val (.int a), .val (.int c), .val (.int f), .val (.int (own_b a c f)), .unset, .unset, .unset, .unset]) rfl ?_
    show Steps p_.tables e_ below (s₁.setTop (mkF m_ 12 #[.val (.int a), .val (.int c), .val (.int f), .val (.int (own_b a c f)), .unset, .unset, .unset, .unset] [])) t_
    exact k_
  by_cases hs : a = (own_b a c f)
  · rw [← hs]
    show own_Out p_ e_ below s_ _ _ _ s₁ (mkF m_ 12 #[.val (.int a), .val (.int c), .val (.int f), .val (.int a), .unset, .unset, .unset, .unset] [])
    refine own_st s₁ (mkF m_ 25 #[.val (.int a), .val (.int c), .val (.int f), .val (.int a), .val (.int (1 : Int32)), .unset, .unset, .unset] [(.int a)]) (fun t_ k_ => ?_) ?_
    · refine XS.iloadN X0.here hx rfl (hb hby at_12) rfl ?_
      show Steps p_.tables e_ below (s₁.setTop (mkF m_ 13 #[.val (.int a), .val (.int c), .val (.int f), .val (.int a), .unset, .unset, .unset, .unset] [(.int a)])) t_
      refine XS.iloadN X0.here hx rfl (hb hby at_13) rfl ?_
      show Steps p_.tables e_ below (s₁.setTop (mkF m_ 14 #[.val (.int a), .val (.int c), .val (.int f), .val (.int a), .unset, .unset, .unset, .unset] [(.int a), (.int a)])) t_
      refine XS.icmpNo X0.here hx rfl (hb hby at_14) rfl (teq (rfl : a = a)).2 ?_
      show Steps p_.tables e_ below (s₁.setTop (mkF m_ 17 #[.val (.int a), .val (.int c), .val (.int f), .val (.int a), .unset, .unset, .unset, .unset] [])) t_
      refine XS.iconst X0.here hx rfl (hb hby at_17) ?_
      show Steps p_.tables e_ below (s₁.setTop (mkF m_ 18 #[.val (.int a), .val (.int c), .val (.int f), .val (.int a), .unset, .unset, .unset, .unset] [(.int (1 : Int32))])) t_
      refine XS.goto X0.here hx rfl (pc0 := 18) (pc' := 22) rfl (hb hby at_18) (by decide) (by decide) ?_
      show Steps p_.tables e_ below (s₁.setTop (mkF m_ 22 #[.val (.int a), .val (.int c), .val (.int f), .val (.int a), .unset, .unset, .unset, .unset] [(.int (1 : Int32))])) t_
      refine XS.istore X0.here hx rfl (hb hby at_22) rfl (l' := #[.val (.int a), .val (.int c), .val (.int f), .val (.int a), .val (.int (1 : Int32)), .unset, .unset, .unset]) rfl ?_
      show Steps p_.tables e_ below (s₁.setTop (mkF m_ 24 #[.val (.int a), .val (.int c), .val (.int f), .val (.int a), .val (.int (1 : Int32)), .unset, .unset, .unset] [])) t_
      refine XS.iloadN X0.here hx rfl (hb hby at_24) rfl ?_
      show Steps p_.tables e_ below (s₁.setTop (mkF m_ 25 #[.val (.int a), .val (.int c), .val (.int f), .val (.int a), .val (.int (1 : Int32)), .unset, .unset, .unset] [(.int a)])) t_
      exact k_
    refine own_callS X0 hx hZ hown (hw _ (List.mem_of_getElem? (i := 0) rfl)) (hw _ (List.mem_of_getElem? (i := 1) rfl)) (hw _ (List.mem_of_getElem? (i := 2) rfl)) (hw _ (List.mem_of_getElem? (i := 3) rfl)) (by decide) [(.int a)] [] (rm1 l Z a0 hw a h0 n0 Z0) 0 (by decide) (by decide) e0 (by rw [hml]; rfl) (lenOf own_pd3 rfl) rfl (Nat.le_of_eq rfl) (hb hby at_25) (by decide) (by decide) ?_
    intro v1 T1 L1 X1 q1
    obtain ⟨o1, t1, kt1, rfl, g_o1, g_t1, N1q, K1, E_o1, F_levels_o1, A_t1⟩ := q1
    have N1 := Fr.app N0 N1q
    replace O := O.keep K1 all0
    replace Z0 : n0 ≤ T1.heap.size := Nat.le_trans Z0 K1.1
    show own_Out p_ e_ below s_ _ _ _ T1 (mkF m_ 28 #[.val (.int a), .val (.int c), .val (.int f), .val (.int a), .val (.int (1 : Int32)), .unset, .unset, .unset] [(.ref o1)])
    refine own_st T1 (mkF m_ 31 #[.val (.int a), .val (.int c), .val (.int f), .val (.int a), .val (.int (1 : Int32)), .val (.ref o1), .unset, .unset] [(.int a)]) (fun t_ k_ => ?_) ?_
    · refine XS.astore X1.here hx rfl (hb hby at_28) rfl rfl (l' := #[.val (.int a), .val (.int c), .val (.int f), .val (.int a), .val (.int (1 : Int32)), .val (.ref o1), .unset, .unset]) rfl ?_
      show Steps p_.tables e_ below (T1.setTop (mkF m_ 30 #[.val (.int a), .val (.int c), .val (.int f), .val (.int a), .val (.int (1 : Int32)), .val (.ref o1), .unset, .unset] [])) t_
      refine XS.iloadN X1.here hx rfl (hb hby at_30) rfl ?_
      show Steps p_.tables e_ below (T1.setTop (mkF m_ 31 #[.val (.int a), .val (.int c), .val (.int f), .val (.int a), .val (.int (1 : Int32)), .val (.ref o1), .unset, .unset] [(.int a)])) t_
      exact k_
    refine own_callS X1 hx hZ hown (hw _ (List.mem_of_getElem? (i := 0) rfl)) (hw _ (List.mem_of_getElem? (i := 1) rfl)) (hw _ (List.mem_of_getElem? (i := 2) rfl)) (hw _ (List.mem_of_getElem? (i := 3) rfl)) (by decide) [(.int a)] [] (rm1 l Z a0 hw a T1.heap n0 Z0) 0 (by decide) (by decide) rfl (by rw [hml]; rfl) (lenOf own_pd3 rfl) rfl (Nat.le_of_eq rfl) (hb hby at_31) (by decide) (by decide) ?_
    intro v2 T2 L2 X2 q2
    obtain ⟨o2, t2, kt2, rfl, g_o2, g_t2, N2q, K2, E_o2, F_levels_o2, A_t2⟩ := q2
    have N2 := Fr.app N1 N2q
    replace O := O.keep K2 all0
    replace E_o1 := E_o1.keep K2
    replace F_levels_o1 := F_levels_o1.keep K2 nin0
    replace A_t1 := A_t1.keep K2 nin0
    replace Z0 : n0 ≤ T2.heap.size := Nat.le_trans Z0 K2.1
    show own_Out p_ e_ below s_ _ _ _ T2 (mkF m_ 34 #[.val (.int a), .val (.int c), .val (.int f), .val (.int a), .val (.int (1 : Int32)), .val (.ref o1), .unset, .unset] [(.ref o2)])
    refine own_st T2 (mkF m_ 38 #[.val (.int a), .val (.int c), .val (.int f), .val (.int a), .val (.int (1 : Int32)), .val (.ref o1), .val (.ref o2), .unset] [(.ref o1)]) (fun t_ k_ => ?_) ?_
    · refine XS.astore X2.here hx rfl (hb hby at_34) rfl rfl (l' := #[.val (.int a), .val (.int c), .val (.int f), .val (.int a), .val (.int (1 : Int32)), .val (.ref o1), .val (.ref o2), .unset]) rfl ?_
      show Steps p_.tables e_ below (T2.setTop (mkF m_ 36 #[.val (.int a), .val (.int c), .val (.int f), .val (.int a), .val (.int (1 : Int32)), .val (.ref o1), .val (.ref o2), .unset] [])) t_
      refine XS.aload X2.here hx rfl (hb hby at_36) rfl rfl ?_
      show Steps p_.tables e_ below (T2.setTop (mkF m_ 38 #[.val (.int a), .val (.int c), .val (.int f), .val (.int a), .val (.int (1 : Int32)), .val (.ref o1), .val (.ref o2), .unset] [(.ref o1)])) t_
      exact k_
    refine own_callV X2 hx hZ (y := (⟨"com/example/tabmod/tabmod/tableau/DepSet", "isEmpty", "()Z"⟩ : MethodName)) (z := (⟨"com/example/tabmod/tabmod/tableau/DepSet", "isEmpty", "()Z"⟩ : MethodName)) hown (hw _ (List.mem_of_getElem? (i := 15) rfl)) (hw _ (List.mem_of_getElem? (i := 16) rfl)) (notFace_of_selects (args := #[]) (mvT hZ (hw _ (List.mem_of_getElem? (i := 18) rfl)))) (hw _ (List.mem_of_getElem? (i := 18) rfl)) (hw _ (List.mem_of_getElem? (i := 17) rfl)) (hw _ (List.mem_of_getElem? (i := 2) rfl)) (hw _ (List.mem_of_getElem? (i := 19) rfl)) (by decide) o1 [] [] E_o1 (rm4 l Z a0 hw o1 t1 kt1 a T2.heap n0 Z0 F_levels_o1 A_t1) 0 (by decide) (by decide) rfl (by rw [hml]; rfl) (lenOf own_pd4 rfl) rfl (Nat.le_of_eq rfl) (hb hby at_38) (by decide) (by decide) ?_
    intro v3 T3 L3 X3 q3
    obtain ⟨rfl, N3q, e3⟩ := q3
    have N3 := Fr.app N2 N3q
    show own_Out p_ e_ below s_ _ _ _ T3 (mkF m_ 41 #[.val (.int a), .val (.int c), .val (.int f), .val (.int a), .val (.int (1 : Int32)), .val (.ref o1), .val (.ref o2), .unset] [(.int (0 : Int32))])
    refine own_st T3 (mkF m_ 48 #[.val (.int a), .val (.int c), .val (.int f), .val (.int a), .val (.int (1 : Int32)), .val (.ref o1), .val (.ref o2), .unset] [(.ref o1)]) (fun t_ k_ => ?_) ?_
    · refine XS.ifYes X3.here hx rfl (pc0 := 41) (pc' := 46) rfl (hb hby at_41) rfl ((if0 _ _).trans (teq (by decide : (0 : Int32) = (0 : Int32))).1) (by decide) (by decide) ?_
      show Steps p_.tables e_ below (T3.setTop (mkF m_ 46 #[.val (.int a), .val (.int c), .val (.int f), .val (.int a), .val (.int (1 : Int32)), .val (.ref o1), .val (.ref o2), .unset] [])) t_
      refine XS.aload X3.here hx rfl (hb hby at_46) rfl rfl ?_
      show Steps p_.tables e_ below (T3.setTop (mkF m_ 48 #[.val (.int a), .val (.int c), .val (.int f), .val (.int a), .val (.int (1 : Int32)), .val (.ref o1), .val (.ref o2), .unset] [(.ref o1)])) t_
      exact k_
    refine own_callV X3 hx hZ (y := (⟨"com/example/tabmod/tabmod/tableau/DepSet", "max", "()I"⟩ : MethodName)) (z := (⟨"com/example/tabmod/tabmod/tableau/DepSet", "max", "()I"⟩ : MethodName)) hown (hw _ (List.mem_of_getElem? (i := 20) rfl)) (hw _ (List.mem_of_getElem? (i := 21) rfl)) (notFace_of_selects (args := #[]) (mvT hZ (hw _ (List.mem_of_getElem? (i := 23) rfl)))) (hw _ (List.mem_of_getElem? (i := 23) rfl)) (hw _ (List.mem_of_getElem? (i := 22) rfl)) (hw _ (List.mem_of_getElem? (i := 2) rfl)) (hw _ (List.mem_of_getElem? (i := 24) rfl)) (by decide) o1 [] [] E_o1 (rm5 l Z a0 hw o1 t1 kt1 a T2.heap n0 Z0 F_levels_o1 A_t1) 0 (by decide) (by decide) e3 (by rw [hml]; rfl) (lenOf own_pd5 rfl) rfl (Nat.le_of_eq rfl) (hb hby at_48) (by decide) (by decide) ?_
    intro v4 T4 L4 X4 q4
    obtain ⟨rfl, N4q, e4⟩ := q4
    have N4 := Fr.app N3 N4q
    show own_Out p_ e_ below s_ _ _ _ T4 (mkF m_ 51 #[.val (.int a), .val (.int c), .val (.int f), .val (.int a), .val (.int (1 : Int32)), .val (.ref o1), .val (.ref o2), .unset] [(.int a)])
    refine own_st T4 (mkF m_ 61 #[.val (.int a), .val (.int c), .val (.int f), .val (.int a), .val (.int (1 : Int32)), .val (.ref o1), .val (.ref o2), .unset] [(.ref o2), (.ref o1)]) (fun t_ k_ => ?_) ?_
    · refine XS.iloadN X4.here hx rfl (hb hby at_51) rfl ?_
      show Steps p_.tables e_ below (T4.setTop (mkF m_ 52 #[.val (.int a), .val (.int c), .val (.int f), .val (.int a), .val (.int (1 : Int32)), .val (.ref o1), .val (.ref o2), .unset] [(.int a), (.int a)])) t_
      refine XS.icmpYes X4.here hx rfl (pc0 := 52) (pc' := 57) rfl (hb hby at_52) rfl (teq (rfl : a = a)).1 (by decide) (by decide) ?_
      show Steps p_.tables e_ below (T4.setTop (mkF m_ 57 #[.val (.int a), .val (.int c), .val (.int f), .val (.int a), .val (.int (1 : Int32)), .val (.ref o1), .val (.ref o2), .unset] [])) t_
      refine XS.aload X4.here hx rfl (hb hby at_57) rfl rfl ?_
      show Steps p_.tables e_ below (T4.setTop (mkF m_ 59 #[.val (.int a), .val (.int c), .val (.int f), .val (.int a), .val (.int (1 : Int32)), .val (.ref o1), .val (.ref o2), .unset] [(.ref o1)])) t_
      refine XS.aload X4.here hx rfl (hb hby at_59) rfl rfl ?_
      show Steps p_.tables e_ below (T4.setTop (mkF m_ 61 #[.val (.int a), .val (.int c), .val (.int f), .val (.int a), .val (.int (1 : Int32)), .val (.ref o1), .val (.ref o2), .unset] [(.ref o2), (.ref o1)])) t_
      exact k_
    refine own_callV X4 hx hZ (y := (⟨"com/example/tabmod/tabmod/tableau/DepSet", "within", "(Lcom/example/tabmod/tabmod/tableau/DepSet;)Z"⟩ : MethodName)) (z := (⟨"com/example/tabmod/tabmod/tableau/DepSet", "within", "(Lcom/example/tabmod/tabmod/tableau/DepSet;)Z"⟩ : MethodName)) hown (hw _ (List.mem_of_getElem? (i := 25) rfl)) (hw _ (List.mem_of_getElem? (i := 26) rfl)) (notFace_of_selects (args := #[]) (mvT hZ (hw _ (List.mem_of_getElem? (i := 28) rfl)))) (hw _ (List.mem_of_getElem? (i := 28) rfl)) (hw _ (List.mem_of_getElem? (i := 27) rfl)) (hw _ (List.mem_of_getElem? (i := 2) rfl)) (hw _ (List.mem_of_getElem? (i := 29) rfl)) (by decide) o1 [(.ref o2)] [] E_o1 (rm6 l Z a0 hw o1 o2 t1 t2 kt1 kt2 a a T2.heap n0 Z0 F_levels_o1 A_t1 F_levels_o2 A_t2) 0 (by decide) (by decide) e4 (by rw [hml]; rfl) (lenOf own_pd6 rfl) rfl (Nat.le_of_eq rfl) (hb hby at_61) (by decide) (by decide) ?_
    intro v5 T5 L5 X5 q5
    obtain ⟨rfl, N5q, e5⟩ := q5
    have N5 := Fr.app N4 N5q
    show own_Out p_ e_ below s_ _ _ _ T5 (mkF m_ 64 #[.val (.int a), .val (.int c), .val (.int f), .val (.int a), .val (.int (1 : Int32)), .val (.ref o1), .val (.ref o2), .unset] [(.int (f6 a a))])
    refine own_st T5 (mkF m_ 73 #[.val (.int a), .val (.int c), .val (.int f), .val (.int a), .val (.int (1 : Int32)), .val (.ref o1), .val (.ref o2), .unset] [(.ref o1)]) (fun t_ k_ => ?_) ?_
    · refine XS.iload X5.here hx rfl (hb hby at_64) rfl ?_
      show Steps p_.tables e_ below (T5.setTop (mkF m_ 66 #[.val (.int a), .val (.int c), .val (.int f), .val (.int a), .val (.int (1 : Int32)), .val (.ref o1), .val (.ref o2), .unset] [(.int (1 : Int32)), (.int (f6 a a))])) t_
      refine XS.icmpYes X5.here hx rfl (pc0 := 66) (pc' := 71) rfl (hb hby at_66) rfl (teq (own_w1 rfl : (f6 a a) = (1 : Int32))).1 (by decide) (by decide) ?_
      show Steps p_.tables e_ below (T5.setTop (mkF m_ 71 #[.val (.int a), .val (.int c), .val (.int f), .val (.int a), .val (.int (1 : Int32)), .val (.ref o1), .val (.ref o2), .unset] [])) t_
      refine XS.aload X5.here hx rfl (hb hby at_71) rfl rfl ?_
      show Steps p_.tables e_ below (T5.setTop (mkF m_ 73 #[.val (.int a), .val (.int c), .val (.int f), .val (.int a), .val (.int (1 : Int32)), .val (.ref o1), .val (.ref o2), .unset] [(.ref o1)])) t_
      exact k_
    obtain ⟨T6, X6, e6, st6⟩ := getS2 X5 hx hZ hown (host := "") (Or.inl (hw _ (List.mem_of_getElem? (i := 30) rfl))) Via.refl e5 (S_EMPTY.ext O.2) (g := (mkF m_ 73 #[.val (.int a), .val (.int c), .val (.int f), .val (.int a), .val (.int (1 : Int32)), .val (.ref o1), .val (.ref o2), .unset] [(.ref o1)])) rfl (hb hby at_73)
    refine own_st T6 (mkF m_ 76 #[.val (.int a), .val (.int c), .val (.int f), .val (.int a), .val (.int (1 : Int32)), .val (.ref o1), .val (.ref o2), .unset] [(.ref em), (.ref o1)]) st6 ?_
    refine own_callV X6 hx hZ (y := (⟨"com/example/tabmod/tabmod/tableau/DepSet", "within", "(Lcom/example/tabmod/tabmod/tableau/DepSet;)Z"⟩ : MethodName)) (z := (⟨"com/example/tabmod/tabmod/tableau/DepSet", "within", "(Lcom/example/tabmod/tabmod/tableau/DepSet;)Z"⟩ : MethodName)) hown (hw _ (List.mem_of_getElem? (i := 25) rfl)) (hw _ (List.mem_of_getElem? (i := 26) rfl)) (notFace_of_selects (args := #[]) (mvT hZ (hw _ (List.mem_of_getElem? (i := 28) rfl)))) (hw _ (List.mem_of_getElem? (i := 28) rfl)) (hw _ (List.mem_of_getElem? (i := 27) rfl)) (hw _ (List.mem_of_getElem? (i := 2) rfl)) (hw _ (List.mem_of_getElem? (i := 29) rfl)) (by decide) o1 [(.ref em)] [] E_o1 (rm6e l Z a0 hw o1 em t1 el kt1 ke a  T2.heap n0 Z0 F_levels_o1 A_t1 (F_em.ext O.2) (A_el.ext O.2)) 0 (by decide) (by decide) e6 (by rw [hml]; rfl) (lenOf own_pd6 rfl) rfl (Nat.le_of_eq rfl) (hb hby at_76) (by decide) (by decide) ?_
    intro v7 T7 L7 X7 q7
    obtain ⟨rfl, N7q, e7⟩ := q7
    have N7 := Fr.app N5 N7q
    show own_Out p_ e_ below s_ _ _ _ T7 (mkF m_ 79 #[.val (.int a), .val (.int c), .val (.int f), .val (.int a), .val (.int (1 : Int32)), .val (.ref o1), .val (.ref o2), .unset] [(.int (0 : Int32))])
    refine own_st T7 (mkF m_ 87 #[.val (.int a), .val (.int c), .val (.int f), .val (.int a), .val (.int (1 : Int32)), .val (.ref o1), .val (.ref o2), .unset] [(.int a), (.ref o1)]) (fun t_ k_ => ?_) ?_
    · refine XS.ifYes X7.here hx rfl (pc0 := 79) (pc' := 84) rfl (hb hby at_79) rfl ((if0 _ _).trans (teq (by decide : (0 : Int32) = (0 : Int32))).1) (by decide) (by decide) ?_
      show Steps p_.tables e_ below (T7.setTop (mkF m_ 84 #[.val (.int a), .val (.int c), .val (.int f), .val (.int a), .val (.int (1 : Int32)), .val (.ref o1), .val (.ref o2), .unset] [])) t_
      refine XS.aload X7.here hx rfl (hb hby at_84) rfl rfl ?_
      show Steps p_.tables e_ below (T7.setTop (mkF m_ 86 #[.val (.int a), .val (.int c), .val (.int f), .val (.int a), .val (.int (1 : Int32)), .val (.ref o1), .val (.ref o2), .unset] [(.ref o1)])) t_
      refine XS.iloadN X7.here hx rfl (hb hby at_86) rfl ?_
      show Steps p_.tables e_ below (T7.setTop (mkF m_ 87 #[.val (.int a), .val (.int c), .val (.int f), .val (.int a), .val (.int (1 : Int32)), .val (.ref o1), .val (.ref o2), .unset] [(.int a), (.ref o1)])) t_
      exact k_
    refine own_callV X7 hx hZ (y := (⟨"com/example/tabmod/tabmod/tableau/DepSet", "without", "(I)Lcom/example/tabmod/tabmod/tableau/DepSet;"⟩ : MethodName)) (z := (⟨"com/example/tabmod/tabmod/tableau/DepSet", "without", "(I)Lcom/example/tabmod/tabmod/tableau/DepSet;"⟩ : MethodName)) hown (hw _ (List.mem_of_getElem? (i := 32) rfl)) (hw _ (List.mem_of_getElem? (i := 33) rfl)) (notFace_of_selects (args := #[]) (mvT hZ (hw _ (List.mem_of_getElem? (i := 35) rfl)))) (hw _ (List.mem_of_getElem? (i := 35) rfl)) (hw _ (List.mem_of_getElem? (i := 34) rfl)) (hw _ (List.mem_of_getElem? (i := 2) rfl)) (hw _ (List.mem_of_getElem? (i := 36) rfl)) (by decide) o1 [(.int a)] [] E_o1 (rm7s l Z a0 hw o1 a t1 kt1 T2.heap n0 Z0 F_levels_o1 A_t1) 0 (by decide) (by decide) e7 (by rw [hml]; rfl) (lenOf own_pd3 rfl) rfl (Nat.le_of_eq rfl) (hb hby at_87) (by decide) (by decide) ?_
    intro v8 T8 L8 X8 q8
    obtain ⟨o8, t8, kt8, rfl, g_o8, g_t8, N8q, K8, E_o8, F_levels_o8, A_t8⟩ := q8
    have N8 := Fr.app N7 N8q
    replace O := O.keep K8 all0
    replace E_o1 := E_o1.keep K8
    replace F_levels_o1 := F_levels_o1.keep K8 nin0
    replace A_t1 := A_t1.keep K8 nin0
    replace E_o2 := E_o2.keep K8
    replace F_levels_o2 := F_levels_o2.keep K8 nin0
    replace A_t2 := A_t2.keep K8 nin0
    replace Z0 : n0 ≤ T8.heap.size := Nat.le_trans Z0 K8.1
    show own_Out p_ e_ below s_ _ _ _ T8 (mkF m_ 90 #[.val (.int a), .val (.int c), .val (.int f), .val (.int a), .val (.int (1 : Int32)), .val (.ref o1), .val (.ref o2), .unset] [(.ref o8)])
    refine own_st T8 (mkF m_ 94 #[.val (.int a), .val (.int c), .val (.int f), .val (.int a), .val (.int (1 : Int32)), .val (.ref o1), .val (.ref o2), .val (.ref o8)] [(.ref o8)]) (fun t_ k_ => ?_) ?_
    · refine XS.astore X8.here hx rfl (hb hby at_90) rfl rfl (l' := #[.val (.int a), .val (.int c), .val (.int f), .val (.int a), .val (.int (1 : Int32)), .val (.ref o1), .val (.ref o2), .val (.ref o8)]) rfl ?_
      show Steps p_.tables e_ below (T8.setTop (mkF m_ 92 #[.val (.int a), .val (.int c), .val (.int f), .val (.int a), .val (.int (1 : Int32)), .val (.ref o1), .val (.ref o2), .val (.ref o8)] [])) t_
      refine XS.aload X8.here hx rfl (hb hby at_92) rfl rfl ?_
      show Steps p_.tables e_ below (T8.setTop (mkF m_ 94 #[.val (.int a), .val (.int c), .val (.int f), .val (.int a), .val (.int (1 : Int32)), .val (.ref o1), .val (.ref o2), .val (.ref o8)] [(.ref o8)])) t_
      exact k_
    refine own_callV X8 hx hZ (y := (⟨"com/example/tabmod/tabmod/tableau/DepSet", "isEmpty", "()Z"⟩ : MethodName)) (z := (⟨"com/example/tabmod/tabmod/tableau/DepSet", "isEmpty", "()Z"⟩ : MethodName)) hown (hw _ (List.mem_of_getElem? (i := 15) rfl)) (hw _ (List.mem_of_getElem? (i := 16) rfl)) (notFace_of_selects (args := #[]) (mvT hZ (hw _ (List.mem_of_getElem? (i := 18) rfl)))) (hw _ (List.mem_of_getElem? (i := 18) rfl)) (hw _ (List.mem_of_getElem? (i := 17) rfl)) (hw _ (List.mem_of_getElem? (i := 2) rfl)) (hw _ (List.mem_of_getElem? (i := 19) rfl)) (by decide) o8 [] [] E_o8 (rm4e l Z a0 hw o8 t8 kt8  T8.heap n0 Z0 F_levels_o8 A_t8) 0 (by decide) (by decide) rfl (by rw [hml]; rfl) (lenOf own_pd4 rfl) rfl (Nat.le_of_eq rfl) (hb hby at_94) (by decide) (by decide) ?_
    intro v9 T9 L9 X9 q9
    obtain ⟨rfl, N9q, e9⟩ := q9
    have N9 := Fr.app N8 N9q
    show own_Out p_ e_ below s_ _ _ _ T9 (mkF m_ 97 #[.val (.int a), .val (.int c), .val (.int f), .val (.int a), .val (.int (1 : Int32)), .val (.ref o1), .val (.ref o2), .val (.ref o8)] [(.int (1 : Int32))])
    refine own_st T9 (mkF m_ 121 #[.val (.int a), .val (.int c), .val (.int f), .val (.int a), .val (.int (1 : Int32)), .val (.ref o1), .val (.ref o2), .val (.ref o8)] [(.int (1 : Int32))]) (fun t_ k_ => ?_) ?_
    · refine XS.iload X9.here hx rfl (hb hby at_97) rfl ?_
      show Steps p_.tables e_ below (T9.setTop (mkF m_ 99 #[.val (.int a), .val (.int c), .val (.int f), .val (.int a), .val (.int (1 : Int32)), .val (.ref o1), .val (.ref o2), .val (.ref o8)] [(.int (1 : Int32)), (.int (1 : Int32))])) t_
      refine XS.icmpYes X9.here hx rfl (pc0 := 99) (pc' := 104) rfl (hb hby at_99) rfl (teq (by decide : (1 : Int32) = (1 : Int32))).1 (by decide) (by decide) ?_
      show Steps p_.tables e_ below (T9.setTop (mkF m_ 104 #[.val (.int a), .val (.int c), .val (.int f), .val (.int a), .val (.int (1 : Int32)), .val (.ref o1), .val (.ref o2), .val (.ref o8)] [])) t_
      refine XS.iload X9.here hx rfl (hb hby at_104) rfl ?_
      show Steps p_.tables e_ below (T9.setTop (mkF m_ 106 #[.val (.int a), .val (.int c), .val (.int f), .val (.int a), .val (.int (1 : Int32)), .val (.ref o1), .val (.ref o2), .val (.ref o8)] [(.int (1 : Int32))])) t_
      refine XS.ifYes X9.here hx rfl (pc0 := 106) (pc' := 120) rfl (hb hby at_106) rfl ((if0 _ _).trans (feq (by decide : ¬ ((1 : Int32) = (0 : Int32)))).2) (by decide) (by decide) ?_
      show Steps p_.tables e_ below (T9.setTop (mkF m_ 120 #[.val (.int a), .val (.int c), .val (.int f), .val (.int a), .val (.int (1 : Int32)), .val (.ref o1), .val (.ref o2), .val (.ref o8)] [])) t_
      refine XS.iconst X9.here hx rfl (hb hby at_120) ?_
      show Steps p_.tables e_ below (T9.setTop (mkF m_ 121 #[.val (.int a), .val (.int c), .val (.int f), .val (.int a), .val (.int (1 : Int32)), .val (.ref o1), .val (.ref o2), .val (.ref o8)] [(.int (1 : Int32))])) t_
      exact k_
    refine own_retN X9 hx hlk (t := .boolean) hret (by simp) (hb hby at_121) (by decide) (by decide) ?_
    exact ⟨rfl, N9⟩
  · refine own_st s₁ (mkF m_ 25 #[.val (.int a), .val (.int c), .val (.int f), .val (.int (own_b a c f)), .val (.int (0 : Int32)), .unset, .unset, .unset] [(.int a)]) (fun t_ k_ => ?_) ?_
    · refine XS.iloadN X0.here hx rfl (hb hby at_12) rfl ?_
      show Steps p_.tables e_ below (s₁.setTop (mkF m_ 13 #[.val (.int a), .val (.int c), .val (.int f), .val (.int (own_b a c f)), .unset, .unset, .unset, .unset] [(.int a)])) t_
      refine XS.iloadN X0.here hx rfl (hb hby at_13) rfl ?_
      show Steps p_.tables e_ below (s₁.setTop (mkF m_ 14 #[.val (.int a), .val (.int c), .val (.int f), .val (.int (own_b a c f)), .unset, .unset, .unset, .unset] [(.int (own_b a c f)), (.int a)])) t_
      refine XS.icmpYes X0.here hx rfl (pc0 := 14) (pc' := 21) rfl (hb hby at_14) rfl (feq (hs : ¬ (a = (own_b a c f)))).2 (by decide) (by decide) ?_
      show Steps p_.tables e_ below (s₁.setTop (mkF m_ 21 #[.val (.int a), .val (.int c), .val (.int f), .val (.int (own_b a c f)), .unset, .unset, .unset, .unset] [])) t_
      refine XS.iconst X0.here hx rfl (hb hby at_21) ?_
      show Steps p_.tables e_ below (s₁.setTop (mkF m_ 22 #[.val (.int a), .val (.int c), .val (.int f), .val (.int (own_b a c f)), .unset, .unset, .unset, .unset] [(.int (0 : Int32))])) t_
      refine XS.istore X0.here hx rfl (hb hby at_22) rfl (l' := #[.val (.int a), .val (.int c), .val (.int f), .val (.int (own_b a c f)), .val (.int (0 : Int32)), .unset, .unset, .unset]) rfl ?_
      show Steps p_.tables e_ below (s₁.setTop (mkF m_ 24 #[.val (.int a), .val (.int c), .val (.int f), .val (.int (own_b a c f)), .val (.int (0 : Int32)), .unset, .unset, .unset] [])) t_
      refine XS.iloadN X0.here hx rfl (hb hby at_24) rfl ?_
      show Steps p_.tables e_ below (s₁.setTop (mkF m_ 25 #[.val (.int a), .val (.int c), .val (.int f), .val (.int (own_b a c f)), .val (.int (0 : Int32)), .unset, .unset, .unset] [(.int a)])) t_
      exact k_
    refine own_callS X0 hx hZ hown (hw _ (List.mem_of_getElem? (i := 0) rfl)) (hw _ (List.mem_of_getElem? (i := 1) rfl)) (hw _ (List.mem_of_getElem? (i := 2) rfl)) (hw _ (List.mem_of_getElem? (i := 3) rfl)) (by decide) [(.int a)] [] (rm1 l Z a0 hw a h0 n0 Z0) 0 (by decide) (by decide) e0 (by rw [hml]; rfl) (lenOf own_pd3 rfl) rfl (Nat.le_of_eq rfl) (hb hby at_25) (by decide) (by decide) ?_
    intro v10 T10 L10 X10 q10
    obtain ⟨o10, t10, kt10, rfl, g_o10, g_t10, N10q, K10, E_o10, F_levels_o10, A_t10⟩ := q10
    have N10 := Fr.app N0 N10q
    replace O := O.keep K10 all0
    replace Z0 : n0 ≤ T10.heap.size := Nat.le_trans Z0 K10.1
    show own_Out p_ e_ below s_ _ _ _ T10 (mkF m_ 28 #[.val (.int a), .val (.int c), .val (.int f), .val (.int (own_b a c f)), .val (.int (0 : Int32)), .unset, .unset, .unset] [(.ref o10)])
    refine own_st T10 (mkF m_ 31 #[.val (.int a), .val (.int c), .val (.int f), .val (.int (own_b a c f)), .val (.int (0 : Int32)), .val (.ref o10), .unset, .unset] [(.int (own_b a c f))]) (fun t_ k_ => ?_) ?_
    · refine XS.astore X10.here hx rfl (hb hby at_28) rfl rfl (l' := #[.val (.int a), .val (.int c), .val (.int f), .val (.int (own_b a c f)), .val (.int (0 : Int32)), .val (.ref o10), .unset, .unset]) rfl ?_
      show Steps p_.tables e_ below (T10.setTop (mkF m_ 30 #[.val (.int a), .val (.int c), .val (.int f), .val (.int (own_b a c f)), .val (.int (0 : Int32)), .val (.ref o10), .unset, .unset] [])) t_
      refine XS.iloadN X10.here hx rfl (hb hby at_30) rfl ?_
      show Steps p_.tables e_ below (T10.setTop (mkF m_ 31 #[.val (.int a), .val (.int c), .val (.int f), .val (.int (own_b a c f)), .val (.int (0 : Int32)), .val (.ref o10), .unset, .unset] [(.int (own_b a c f))])) t_
      exact k_
    refine own_callS X10 hx hZ hown (hw _ (List.mem_of_getElem? (i := 0) rfl)) (hw _ (List.mem_of_getElem? (i := 1) rfl)) (hw _ (List.mem_of_getElem? (i := 2) rfl)) (hw _ (List.mem_of_getElem? (i := 3) rfl)) (by decide) [(.int (own_b a c f))] [] (rm1 l Z a0 hw (own_b a c f) T10.heap n0 Z0) 0 (by decide) (by decide) rfl (by rw [hml]; rfl) (lenOf own_pd3 rfl) rfl (Nat.le_of_eq rfl) (hb hby at_31) (by decide) (by decide) ?_
    intro v11 T11 L11 X11 q11
    obtain ⟨o11, t11, kt11, rfl, g_o11, g_t11, N11q, K11, E_o11, F_levels_o11, A_t11⟩ := q11
    have N11 := Fr.app N10 N11q
    replace O := O.keep K11 all0
    replace E_o10 := E_o10.keep K11
    replace F_levels_o10 := F_levels_o10.keep K11 nin0
    replace A_t10 := A_t10.keep K11 nin0
    replace Z0 : n0 ≤ T11.heap.size := Nat.le_trans Z0 K11.1
    show own_Out p_ e_ below s_ _ _ _ T11 (mkF m_ 34 #[.val (.int a), .val (.int c), .val (.int f), .val (.int (own_b a c f)), .val (.int (0 : Int32)), .val (.ref o10), .unset, .unset] [(.ref o11)])
    refine own_st T11 (mkF m_ 38 #[.val (.int a), .val (.int c), .val (.int f), .val (.int (own_b a c f)), .val (.int (0 : Int32)), .val (.ref o10), .val (.ref o11), .unset] [(.ref o10)]) (fun t_ k_ => ?_) ?_
    · refine XS.astore X11.here hx rfl (hb hby at_34) rfl rfl (l' := #[.val (.int a), .val (.int c), .val (.int f), .val (.int (own_b a c f)), .val (.int (0 : Int32)), .val (.ref o10), .val (.ref o11), .unset]) rfl ?_
      show Steps p_.tables e_ below (T11.setTop (mkF m_ 36 #[.val (.int a), .val (.int c), .val (.int f), .val (.int (own_b a c f)), .val (.int (0 : Int32)), .val (.ref o10), .val (.ref o11), .unset] [])) t_
      refine XS.aload X11.here hx rfl (hb hby at_36) rfl rfl ?_
      show Steps p_.tables e_ below (T11.setTop (mkF m_ 38 #[.val (.int a), .val (.int c), .val (.int f), .val (.int (own_b a c f)), .val (.int (0 : Int32)), .val (.ref o10), .val (.ref o11), .unset] [(.ref o10)])) t_
      exact k_
    refine own_callV X11 hx hZ (y := (⟨"com/example/tabmod/tabmod/tableau/DepSet", "isEmpty", "()Z"⟩ : MethodName)) (z := (⟨"com/example/tabmod/tabmod/tableau/DepSet", "isEmpty", "()Z"⟩ : MethodName)) hown (hw _ (List.mem_of_getElem? (i := 15) rfl)) (hw _ (List.mem_of_getElem? (i := 16) rfl)) (notFace_of_selects (args := #[]) (mvT hZ (hw _ (List.mem_of_getElem? (i := 18) rfl)))) (hw _ (List.mem_of_getElem? (i := 18) rfl)) (hw _ (List.mem_of_getElem? (i := 17) rfl)) (hw _ (List.mem_of_getElem? (i := 2) rfl)) (hw _ (List.mem_of_getElem? (i := 19) rfl)) (by decide) o10 [] [] E_o10 (rm4 l Z a0 hw o10 t10 kt10 a T11.heap n0 Z0 F_levels_o10 A_t10) 0 (by decide) (by decide) rfl (by rw [hml]; rfl) (lenOf own_pd4 rfl) rfl (Nat.le_of_eq rfl) (hb hby at_38) (by decide) (by decide) ?_
    intro v12 T12 L12 X12 q12
    obtain ⟨rfl, N12q, e12⟩ := q12
    have N12 := Fr.app N11 N12q
    show own_Out p_ e_ below s_ _ _ _ T12 (mkF m_ 41 #[.val (.int a), .val (.int c), .val (.int f), .val (.int (own_b a c f)), .val (.int (0 : Int32)), .val (.ref o10), .val (.ref o11), .unset] [(.int (0 : Int32))])
    refine own_st T12 (mkF m_ 48 #[.val (.int a), .val (.int c), .val (.int f), .val (.int (own_b a c f)), .val (.int (0 : Int32)), .val (.ref o10), .val (.ref o11), .unset] [(.ref o10)]) (fun t_ k_ => ?_) ?_
    · refine XS.ifYes X12.here hx rfl (pc0 := 41) (pc' := 46) rfl (hb hby at_41) rfl ((if0 _ _).trans (teq (by decide : (0 : Int32) = (0 : Int32))).1) (by decide) (by decide) ?_
      show Steps p_.tables e_ below (T12.setTop (mkF m_ 46 #[.val (.int a), .val (.int c), .val (.int f), .val (.int (own_b a c f)), .val (.int (0 : Int32)), .val (.ref o10), .val (.ref o11), .unset] [])) t_
      refine XS.aload X12.here hx rfl (hb hby at_46) rfl rfl ?_
      show Steps p_.tables e_ below (T12.setTop (mkF m_ 48 #[.val (.int a), .val (.int c), .val (.int f), .val (.int (own_b a c f)), .val (.int (0 : Int32)), .val (.ref o10), .val (.ref o11), .unset] [(.ref o10)])) t_
      exact k_
    refine own_callV X12 hx hZ (y := (⟨"com/example/tabmod/tabmod/tableau/DepSet", "max", "()I"⟩ : MethodName)) (z := (⟨"com/example/tabmod/tabmod/tableau/DepSet", "max", "()I"⟩ : MethodName)) hown (hw _ (List.mem_of_getElem? (i := 20) rfl)) (hw _ (List.mem_of_getElem? (i := 21) rfl)) (notFace_of_selects (args := #[]) (mvT hZ (hw _ (List.mem_of_getElem? (i := 23) rfl)))) (hw _ (List.mem_of_getElem? (i := 23) rfl)) (hw _ (List.mem_of_getElem? (i := 22) rfl)) (hw _ (List.mem_of_getElem? (i := 2) rfl)) (hw _ (List.mem_of_getElem? (i := 24) rfl)) (by decide) o10 [] [] E_o10 (rm5 l Z a0 hw o10 t10 kt10 a T11.heap n0 Z0 F_levels_o10 A_t10) 0 (by decide) (by decide) e12 (by rw [hml]; rfl) (lenOf own_pd5 rfl) rfl (Nat.le_of_eq rfl) (hb hby at_48) (by decide) (by decide) ?_
    intro v13 T13 L13 X13 q13
    obtain ⟨rfl, N13q, e13⟩ := q13
    have N13 := Fr.app N12 N13q
    show own_Out p_ e_ below s_ _ _ _ T13 (mkF m_ 51 #[.val (.int a), .val (.int c), .val (.int f), .val (.int (own_b a c f)), .val (.int (0 : Int32)), .val (.ref o10), .val (.ref o11), .unset] [(.int a)])
    refine own_st T13 (mkF m_ 61 #[.val (.int a), .val (.int c), .val (.int f), .val (.int (own_b a c f)), .val (.int (0 : Int32)), .val (.ref o10), .val (.ref o11), .unset] [(.ref o11), (.ref o10)]) (fun t_ k_ => ?_) ?_
    · refine XS.iloadN X13.here hx rfl (hb hby at_51) rfl ?_
      show Steps p_.tables e_ below (T13.setTop (mkF m_ 52 #[.val (.int a), .val (.int c), .val (.int f), .val (.int (own_b a c f)), .val (.int (0 : Int32)), .val (.ref o10), .val (.ref o11), .unset] [(.int a), (.int a)])) t_
      refine XS.icmpYes X13.here hx rfl (pc0 := 52) (pc' := 57) rfl (hb hby at_52) rfl (teq (rfl : a = a)).1 (by decide) (by decide) ?_
      show Steps p_.tables e_ below (T13.setTop (mkF m_ 57 #[.val (.int a), .val (.int c), .val (.int f), .val (.int (own_b a c f)), .val (.int (0 : Int32)), .val (.ref o10), .val (.ref o11), .unset] [])) t_
      refine XS.aload X13.here hx rfl (hb hby at_57) rfl rfl ?_
      show Steps p_.tables e_ below (T13.setTop (mkF m_ 59 #[.val (.int a), .val (.int c), .val (.int f), .val (.int (own_b a c f)), .val (.int (0 : Int32)), .val (.ref o10), .val (.ref o11), .unset] [(.ref o10)])) t_
      refine XS.aload X13.here hx rfl (hb hby at_59) rfl rfl ?_
      show Steps p_.tables e_ below (T13.setTop (mkF m_ 61 #[.val (.int a), .val (.int c), .val (.int f), .val (.int (own_b a c f)), .val (.int (0 : Int32)), .val (.ref o10), .val (.ref o11), .unset] [(.ref o11), (.ref o10)])) t_
      exact k_
    refine own_callV X13 hx hZ (y := (⟨"com/example/tabmod/tabmod/tableau/DepSet", "within", "(Lcom/example/tabmod/tabmod/tableau/DepSet;)Z"⟩ : MethodName)) (z := (⟨"com/example/tabmod/tabmod/tableau/DepSet", "within", "(Lcom/example/tabmod/tabmod/tableau/DepSet;)Z"⟩ : MethodName)) hown (hw _ (List.mem_of_getElem? (i := 25) rfl)) (hw _ (List.mem_of_getElem? (i := 26) rfl)) (notFace_of_selects (args := #[]) (mvT hZ (hw _ (List.mem_of_getElem? (i := 28) rfl)))) (hw _ (List.mem_of_getElem? (i := 28) rfl)) (hw _ (List.mem_of_getElem? (i := 27) rfl)) (hw _ (List.mem_of_getElem? (i := 2) rfl)) (hw _ (List.mem_of_getElem? (i := 29) rfl)) (by decide) o10 [(.ref o11)] [] E_o10 (rm6 l Z a0 hw o10 o11 t10 t11 kt10 kt11 a (own_b a c f) T11.heap n0 Z0 F_levels_o10 A_t10 F_levels_o11 A_t11) 0 (by decide) (by decide) e13 (by rw [hml]; rfl) (lenOf own_pd6 rfl) rfl (Nat.le_of_eq rfl) (hb hby at_61) (by decide) (by decide) ?_
    intro v14 T14 L14 X14 q14
    obtain ⟨rfl, N14q, e14⟩ := q14
    have N14 := Fr.app N13 N14q
    show own_Out p_ e_ below s_ _ _ _ T14 (mkF m_ 64 #[.val (.int a), .val (.int c), .val (.int f), .val (.int (own_b a c f)), .val (.int (0 : Int32)), .val (.ref o10), .val (.ref o11), .unset] [(.int (f6 a (own_b a c f)))])
    refine own_st T14 (mkF m_ 73 #[.val (.int a), .val (.int c), .val (.int f), .val (.int (own_b a c f)), .val (.int (0 : Int32)), .val (.ref o10), .val (.ref o11), .unset] [(.ref o10)]) (fun t_ k_ => ?_) ?_
    · refine XS.iload X14.here hx rfl (hb hby at_64) rfl ?_
      show Steps p_.tables e_ below (T14.setTop (mkF m_ 66 #[.val (.int a), .val (.int c), .val (.int f), .val (.int (own_b a c f)), .val (.int (0 : Int32)), .val (.ref o10), .val (.ref o11), .unset] [(.int (0 : Int32)), (.int (f6 a (own_b a c f)))])) t_
      refine XS.icmpYes X14.here hx rfl (pc0 := 66) (pc' := 71) rfl (hb hby at_66) rfl (teq (own_w0 hs : (f6 a (own_b a c f)) = (0 : Int32))).1 (by decide) (by decide) ?_
      show Steps p_.tables e_ below (T14.setTop (mkF m_ 71 #[.val (.int a), .val (.int c), .val (.int f), .val (.int (own_b a c f)), .val (.int (0 : Int32)), .val (.ref o10), .val (.ref o11), .unset] [])) t_
      refine XS.aload X14.here hx rfl (hb hby at_71) rfl rfl ?_
      show Steps p_.tables e_ below (T14.setTop (mkF m_ 73 #[.val (.int a), .val (.int c), .val (.int f), .val (.int (own_b a c f)), .val (.int (0 : Int32)), .val (.ref o10), .val (.ref o11), .unset] [(.ref o10)])) t_
      exact k_
    obtain ⟨T15, X15, e15, st15⟩ := getS2 X14 hx hZ hown (host := "") (Or.inl (hw _ (List.mem_of_getElem? (i := 30) rfl))) Via.refl e14 (S_EMPTY.ext O.2) (g := (mkF m_ 73 #[.val (.int a), .val (.int c), .val (.int f), .val (.int (own_b a c f)), .val (.int (0 : Int32)), .val (.ref o10), .val (.ref o11), .unset] [(.ref o10)])) rfl (hb hby at_73)
    refine own_st T15 (mkF m_ 76 #[.val (.int a), .val (.int c), .val (.int f), .val (.int (own_b a c f)), .val (.int (0 : Int32)), .val (.ref o10), .val (.ref o11), .unset] [(.ref em), (.ref o10)]) st15 ?_
    refine own_callV X15 hx hZ (y := (⟨"com/example/tabmod/tabmod/tableau/DepSet", "within", "(Lcom/example/tabmod/tabmod/tableau/DepSet;)Z"⟩ : MethodName)) (z := (⟨"com/example/tabmod/tabmod/tableau/DepSet", "within", "(Lcom/example/tabmod/tabmod/tableau/DepSet;)Z"⟩ : MethodName)) hown (hw _ (List.mem_of_getElem? (i := 25) rfl)) (hw _ (List.mem_of_getElem? (i := 26) rfl)) (notFace_of_selects (args := #[]) (mvT hZ (hw _ (List.mem_of_getElem? (i := 28) rfl)))) (hw _ (List.mem_of_getElem? (i := 28) rfl)) (hw _ (List.mem_of_getElem? (i := 27) rfl)) (hw _ (List.mem_of_getElem? (i := 2) rfl)) (hw _ (List.mem_of_getElem? (i := 29) rfl)) (by decide) o10 [(.ref em)] [] E_o10 (rm6e l Z a0 hw o10 em t10 el kt10 ke a  T11.heap n0 Z0 F_levels_o10 A_t10 (F_em.ext O.2) (A_el.ext O.2)) 0 (by decide) (by decide) e15 (by rw [hml]; rfl) (lenOf own_pd6 rfl) rfl (Nat.le_of_eq rfl) (hb hby at_76) (by decide) (by decide) ?_
    intro v16 T16 L16 X16 q16
    obtain ⟨rfl, N16q, e16⟩ := q16
    have N16 := Fr.app N14 N16q
    show own_Out p_ e_ below s_ _ _ _ T16 (mkF m_ 79 #[.val (.int a), .val (.int c), .val (.int f), .val (.int (own_b a c f)), .val (.int (0 : Int32)), .val (.ref o10), .val (.ref o11), .unset] [(.int (0 : Int32))])
    refine own_st T16 (mkF m_ 87 #[.val (.int a), .val (.int c), .val (.int f), .val (.int (own_b a c f)), .val (.int (0 : Int32)), .val (.ref o10), .val (.ref o11), .unset] [(.int (own_b a c f)), (.ref o10)]) (fun t_ k_ => ?_) ?_
    · refine XS.ifYes X16.here hx rfl (pc0 := 79) (pc' := 84) rfl (hb hby at_79) rfl ((if0 _ _).trans (teq (by decide : (0 : Int32) = (0 : Int32))).1) (by decide) (by decide) ?_
      show Steps p_.tables e_ below (T16.setTop (mkF m_ 84 #[.val (.int a), .val (.int c), .val (.int f), .val (.int (own_b a c f)), .val (.int (0 : Int32)), .val (.ref o10), .val (.ref o11), .unset] [])) t_
      refine XS.aload X16.here hx rfl (hb hby at_84) rfl rfl ?_
      show Steps p_.tables e_ below (T16.setTop (mkF m_ 86 #[.val (.int a), .val (.int c), .val (.int f), .val (.int (own_b a c f)), .val (.int (0 : Int32)), .val (.ref o10), .val (.ref o11), .unset] [(.ref o10)])) t_
      refine XS.iloadN X16.here hx rfl (hb hby at_86) rfl ?_
      show Steps p_.tables e_ below (T16.setTop (mkF m_ 87 #[.val (.int a), .val (.int c), .val (.int f), .val (.int (own_b a c f)), .val (.int (0 : Int32)), .val (.ref o10), .val (.ref o11), .unset] [(.int (own_b a c f)), (.ref o10)])) t_
      exact k_
    refine own_callV X16 hx hZ (y := (⟨"com/example/tabmod/tabmod/tableau/DepSet", "without", "(I)Lcom/example/tabmod/tabmod/tableau/DepSet;"⟩ : MethodName)) (z := (⟨"com/example/tabmod/tabmod/tableau/DepSet", "without", "(I)Lcom/example/tabmod/tabmod/tableau/DepSet;"⟩ : MethodName)) hown (hw _ (List.mem_of_getElem? (i := 32) rfl)) (hw _ (List.mem_of_getElem? (i := 33) rfl)) (notFace_of_selects (args := #[]) (mvT hZ (hw _ (List.mem_of_getElem? (i := 35) rfl)))) (hw _ (List.mem_of_getElem? (i := 35) rfl)) (hw _ (List.mem_of_getElem? (i := 34) rfl)) (hw _ (List.mem_of_getElem? (i := 2) rfl)) (hw _ (List.mem_of_getElem? (i := 36) rfl)) (by decide) o10 [(.int (own_b a c f))] [] E_o10 (rm7d l Z a0 hw o10 (own_b a c f) t10 kt10 a T11.heap n0 Z0 F_levels_o10 A_t10 hs) 0 (by decide) (by decide) e16 (by rw [hml]; rfl) (lenOf own_pd3 rfl) rfl (Nat.le_of_eq rfl) (hb hby at_87) (by decide) (by decide) ?_
    intro v17 T17 L17 X17 q17
    obtain ⟨rfl, N17q, e17⟩ := q17
    have N17 := Fr.app N16 N17q
    show own_Out p_ e_ below s_ _ _ _ T17 (mkF m_ 90 #[.val (.int a), .val (.int c), .val (.int f), .val (.int (own_b a c f)), .val (.int (0 : Int32)), .val (.ref o10), .val (.ref o11), .unset] [(.ref o10)])
    refine own_st T17 (mkF m_ 94 #[.val (.int a), .val (.int c), .val (.int f), .val (.int (own_b a c f)), .val (.int (0 : Int32)), .val (.ref o10), .val (.ref o11), .val (.ref o10)] [(.ref o10)]) (fun t_ k_ => ?_) ?_
    · refine XS.astore X17.here hx rfl (hb hby at_90) rfl rfl (l' := #[.val (.int a), .val (.int c), .val (.int f), .val (.int (own_b a c f)), .val (.int (0 : Int32)), .val (.ref o10), .val (.ref o11), .val (.ref o10)]) rfl ?_
      show Steps p_.tables e_ below (T17.setTop (mkF m_ 92 #[.val (.int a), .val (.int c), .val (.int f), .val (.int (own_b a c f)), .val (.int (0 : Int32)), .val (.ref o10), .val (.ref o11), .val (.ref o10)] [])) t_
      refine XS.aload X17.here hx rfl (hb hby at_92) rfl rfl ?_
      show Steps p_.tables e_ below (T17.setTop (mkF m_ 94 #[.val (.int a), .val (.int c), .val (.int f), .val (.int (own_b a c f)), .val (.int (0 : Int32)), .val (.ref o10), .val (.ref o11), .val (.ref o10)] [(.ref o10)])) t_
      exact k_
    refine own_callV X17 hx hZ (y := (⟨"com/example/tabmod/tabmod/tableau/DepSet", "isEmpty", "()Z"⟩ : MethodName)) (z := (⟨"com/example/tabmod/tabmod/tableau/DepSet", "isEmpty", "()Z"⟩ : MethodName)) hown (hw _ (List.mem_of_getElem? (i := 15) rfl)) (hw _ (List.mem_of_getElem? (i := 16) rfl)) (notFace_of_selects (args := #[]) (mvT hZ (hw _ (List.mem_of_getElem? (i := 18) rfl)))) (hw _ (List.mem_of_getElem? (i := 18) rfl)) (hw _ (List.mem_of_getElem? (i := 17) rfl)) (hw _ (List.mem_of_getElem? (i := 2) rfl)) (hw _ (List.mem_of_getElem? (i := 19) rfl)) (by decide) o10 [] [] E_o10 (rm4 l Z a0 hw o10 t10 kt10 a T11.heap n0 Z0 F_levels_o10 A_t10) 0 (by decide) (by decide) e17 (by rw [hml]; rfl) (lenOf own_pd4 rfl) rfl (Nat.le_of_eq rfl) (hb hby at_94) (by decide) (by decide) ?_
    intro v18 T18 L18 X18 q18
    obtain ⟨rfl, N18q, e18⟩ := q18
    have N18 := Fr.app N17 N18q
    show own_Out p_ e_ below s_ _ _ _ T18 (mkF m_ 97 #[.val (.int a), .val (.int c), .val (.int f), .val (.int (own_b a c f)), .val (.int (0 : Int32)), .val (.ref o10), .val (.ref o11), .val (.ref o10)] [(.int (0 : Int32))])
    refine own_st T18 (mkF m_ 111 #[.val (.int a), .val (.int c), .val (.int f), .val (.int (own_b a c f)), .val (.int (0 : Int32)), .val (.ref o10), .val (.ref o11), .val (.ref o10)] [(.ref o10)]) (fun t_ k_ => ?_) ?_
    · refine XS.iload X18.here hx rfl (hb hby at_97) rfl ?_
      show Steps p_.tables e_ below (T18.setTop (mkF m_ 99 #[.val (.int a), .val (.int c), .val (.int f), .val (.int (own_b a c f)), .val (.int (0 : Int32)), .val (.ref o10), .val (.ref o11), .val (.ref o10)] [(.int (0 : Int32)), (.int (0 : Int32))])) t_
      refine XS.icmpYes X18.here hx rfl (pc0 := 99) (pc' := 104) rfl (hb hby at_99) rfl (teq (by decide : (0 : Int32) = (0 : Int32))).1 (by decide) (by decide) ?_
      show Steps p_.tables e_ below (T18.setTop (mkF m_ 104 #[.val (.int a), .val (.int c), .val (.int f), .val (.int (own_b a c f)), .val (.int (0 : Int32)), .val (.ref o10), .val (.ref o11), .val (.ref o10)] [])) t_
      refine XS.iload X18.here hx rfl (hb hby at_104) rfl ?_
      show Steps p_.tables e_ below (T18.setTop (mkF m_ 106 #[.val (.int a), .val (.int c), .val (.int f), .val (.int (own_b a c f)), .val (.int (0 : Int32)), .val (.ref o10), .val (.ref o11), .val (.ref o10)] [(.int (0 : Int32))])) t_
      refine XS.ifNo X18.here hx rfl (hb hby at_106) rfl ((if0 _ _).trans (teq (by decide : (0 : Int32) = (0 : Int32))).2) ?_
      show Steps p_.tables e_ below (T18.setTop (mkF m_ 109 #[.val (.int a), .val (.int c), .val (.int f), .val (.int (own_b a c f)), .val (.int (0 : Int32)), .val (.ref o10), .val (.ref o11), .val (.ref o10)] [])) t_
      refine XS.aload X18.here hx rfl (hb hby at_109) rfl rfl ?_
      show Steps p_.tables e_ below (T18.setTop (mkF m_ 111 #[.val (.int a), .val (.int c), .val (.int f), .val (.int (own_b a c f)), .val (.int (0 : Int32)), .val (.ref o10), .val (.ref o11), .val (.ref o10)] [(.ref o10)])) t_
      exact k_
    refine own_callV X18 hx hZ (y := (⟨"com/example/tabmod/tabmod/tableau/DepSet", "max", "()I"⟩ : MethodName)) (z := (⟨"com/example/tabmod/tabmod/tableau/DepSet", "max", "()I"⟩ : MethodName)) hown (hw _ (List.mem_of_getElem? (i := 20) rfl)) (hw _ (List.mem_of_getElem? (i := 21) rfl)) (notFace_of_selects (args := #[]) (mvT hZ (hw _ (List.mem_of_getElem? (i := 23) rfl)))) (hw _ (List.mem_of_getElem? (i := 23) rfl)) (hw _ (List.mem_of_getElem? (i := 22) rfl)) (hw _ (List.mem_of_getElem? (i := 2) rfl)) (hw _ (List.mem_of_getElem? (i := 24) rfl)) (by decide) o10 [] [] E_o10 (rm5 l Z a0 hw o10 t10 kt10 a T11.heap n0 Z0 F_levels_o10 A_t10) 0 (by decide) (by decide) e18 (by rw [hml]; rfl) (lenOf own_pd5 rfl) rfl (Nat.le_of_eq rfl) (hb hby at_111) (by decide) (by decide) ?_
    intro v19 T19 L19 X19 q19
    obtain ⟨rfl, N19q, e19⟩ := q19
    have N19 := Fr.app N18 N19q
    show own_Out p_ e_ below s_ _ _ _ T19 (mkF m_ 114 #[.val (.int a), .val (.int c), .val (.int f), .val (.int (own_b a c f)), .val (.int (0 : Int32)), .val (.ref o10), .val (.ref o11), .val (.ref o10)] [(.int a)])
    refine own_st T19 (mkF m_ 121 #[.val (.int a), .val (.int c), .val (.int f), .val (.int (own_b a c f)), .val (.int (0 : Int32)), .val (.ref o10), .val (.ref o11), .val (.ref o10)] [(.int (1 : Int32))]) (fun t_ k_ => ?_) ?_
    · refine XS.iloadN X19.here hx rfl (hb hby at_114) rfl ?_
      show Steps p_.tables e_ below (T19.setTop (mkF m_ 115 #[.val (.int a), .val (.int c), .val (.int f), .val (.int (own_b a c f)), .val (.int (0 : Int32)), .val (.ref o10), .val (.ref o11), .val (.ref o10)] [(.int a), (.int a)])) t_
      refine XS.icmpYes X19.here hx rfl (pc0 := 115) (pc' := 120) rfl (hb hby at_115) rfl (teq (rfl : a = a)).1 (by decide) (by decide) ?_
      show Steps p_.tables e_ below (T19.setTop (mkF m_ 120 #[.val (.int a), .val (.int c), .val (.int f), .val (.int (own_b a c f)), .val (.int (0 : Int32)), .val (.ref o10), .val (.ref o11), .val (.ref o10)] [])) t_
      refine XS.iconst X19.here hx rfl (hb hby at_120) ?_
      show Steps p_.tables e_ below (T19.setTop (mkF m_ 121 #[.val (.int a), .val (.int c), .val (.int f), .val (.int (own_b a c f)), .val (.int (0 : Int32)), .val (.ref o10), .val (.ref o11), .val (.ref o10)] [(.int (1 : Int32))])) t_
      exact k_
    refine own_retN X19 hx hlk (t := .boolean) hret (by simp) (hb hby at_121) (by decide) (by decide) ?_
    exact ⟨rfl, N19⟩
set_option maxRecDepth 65536 in
set_option maxHeartbeats 40000000 in
theorem comes_1 {Post : Tables → Env → Array Value → State → Outcome → State → Prop} (hpost : ∀ tb e args s v u, (limb_1_1.after args s (.returned v) u = true ∧ limb_1_2.after args s (.returned v) u = true ∧ True) → FrameEnd s (.returned v) u (Jvm.fieldLocs frame_1_writes args s ++ Jvm.arrayLocs frame_1_arrays args s ++ Jvm.staticLocs frame_1_statics s) 24 128 → Post tb e args s (.returned v) u) :
    ArmFor flags0 classFile x code maxLocals ret World_1 tables_1 room_1 Calls_1 rest_1 Pre_1 Post := by
  intro l hfl _ _ p e ha hc hk s m args below hf hA hF happ hP
  obtain ⟨hcalls, hrest, hpre⟩ := hP
  obtain ⟨-, -, -, hnamed, -, -, -, hat⟩ := (Spec.applies_iff hf).mp happ
  obtain ⟨hg, hn⟩ := and_e (Cond.before_iff.mp (show (Jvm.Cond.and given_1 narrow_1).before args s = true from hpre))
  obtain ⟨c0, r0⟩ := and_e hg
  obtain ⟨k0, r1⟩ := and_e r0
  obtain ⟨k1, r2⟩ := and_e r1
  obtain ⟨w0, w1, w2, rfl⟩ : ∃ w0 w1 w2 : Value, args = #[w0, w1, w2] := by
    have hs : args.size = 3 := by simpa [Cond.value, given_1] using c0
    obtain ⟨L⟩ := args
    match L, hs with
    | [w0, w1, w2], _ => exact ⟨w0, w1, w2, rfl⟩
  have hw := fun d (hd : d ∈ tables_1) => atoms_spec (ws := Jvm.Cond.code x code maxLocals ret :: tables_1) hat d (List.mem_cons_of_mem _ hd)
  have hfit : Fit s := fun {y c} hc i hi => by
    obtain ⟨ha, rfl⟩ := Array.getElem?_eq_some_iff.mp hc
    have q := List.all_eq_true.mp ((Array.all_eq_true_iff_forall_mem.mp hF) _ (Array.getElem_mem ha)) i (List.mem_range.mpr hi)
    simpa [Array.getElem?_eq_getElem hi] using q
  obtain ⟨i0, ei0⟩ := is_v k0
  obtain rfl : w0 = (.int i0) := Option.some.inj ei0
  obtain ⟨i1, ei1⟩ := is_v k1
  obtain rfl : w1 = (.int i1) := Option.some.inj ei1
  obtain ⟨i2, ei2⟩ := is_v r2
  obtain rfl : w2 = (.int i2) := Option.some.inj ei2
  obtain ⟨x1, rr1⟩ := and_e hn
  obtain ⟨x2, x3⟩ := and_e rr1
  obtain ⟨em, ev⟩ := exa_v x1
  have Se := Sta.start ev (Or.inr ⟨(hw _ (List.mem_of_getElem? (i := 2) rfl)), (hw _ (List.mem_of_getElem? (i := 31) rfl))⟩)
  obtain ⟨el, el1⟩ := arr_v x2
  have Fe := Fld.start ((fld_at ev).symm.trans el1)
  obtain ⟨cl, Ae⟩ := Arr.start el1 x2
  have hsz := own_sz0 el1 Ae x3
  have Ae' := own_A0 Ae hsz
  obtain ⟨n, o, h1, h2, h3, _, L, rfl, ⟨rfl, N⟩, hq⟩ := rm0 l s _ hw i0 i1 i2 em el cl.cls s.heap s.heap.size (Nat.le_refl _) (Old.start s) Se Fe Ae' tables_1 p e ha hc hk s m _ below hf ((Spec.applies_iff_loose hf).mp happ).1 ⟨rfl, State.Warmed39.refl s, rfl⟩ trivial
  refine ⟨n, _, h1, h2, h3, hpost _ _ _ _ _ _ ⟨Cond.after_iff.mpr rfl, Cond.after_iff.mpr (eq_i res_at (Term.int_eval (1)) rfl), trivial⟩ ⟨hq.1, hq.2.1, (hq.2.2.sift fun y hy => Or.inr (N y hy)).mono (by decide) (by decide)⟩⟩
theorem main_1_1 : Claimed_1_1 := comes_1 fun _ _ _ _ _ _ h hF => ⟨h.1, hF⟩
theorem main_1_2 : Claimed_1_2 := comes_1 fun _ _ _ _ _ _ h hF => ⟨h.2.1, hF⟩
end Jvm.Pilot.@@N@@
namespace Jvm.Pilot.@@N@@
open Jvm Jvm.ClassFile Sem Op Lib Jvm.Free Jvm.Stand Jvm.Pilot.@@N@@.Jvm.D
/-! MADE BY PROGRAM (witnessworld.py) out of the Statement's table words and the real class files: 11 classes; the members and pool entries that the words name. The judged class is class 1, her method 1. -/
namespace start1
open Jvm.ClassFile
def u (s : String) : CpInfo := .utf8 (stringToUtf16 s)
/-- a pool by its gaps: so many unusable entries, then the entry; so many at the end -/
def gap : Nat → List CpInfo → List CpInfo
  | 0, r => r
  | n + 1, r => .unusable :: gap n r
def poolList (es : List (Nat × CpInfo)) (last : Nat) : List CpInfo := es.foldr (fun e r => gap e.1 (e.2 :: r)) (gap last [])
def pool (es : List (Nat × CpInfo)) (last : Nat) : Array CpInfo := ⟨poolList es last⟩
def fileOf (pool : Array CpInfo) (this : Nat) (attrs : Array Attribute := #[]) (ms : Array MethodInfo := #[]) (fl : Nat := 33) (sup : Nat := 0) (ifs : Array Nat := #[]) (fds : Array FieldInfo := #[]) : ClassFile where
  minorVersion := 0
  majorVersion := 65
  constantPool := pool
  accessFlags := fl
  thisClass := this
  superClass := sup
  interfaces := ifs
  fields := fds
  methods := ms
  attributes := attrs
def plain (name : String) (sup : Option ClassId) : Class where
  name := name
  kind := .ordinary
  loader := none
  accessFlags := 33
  super := sup
  interfaces := #[]
  cf := none
  fields := #[]
  methods := #[]
  instanceTypes := #[]
  staticTypes := #[]
  resolved := #[]
  callSites := []
  init := .initialized
  statics := none
  mirror := none

def pool0 : Array CpInfo := pool [(5, u "<init>"), (0, u "()V"), (1, .class_ 10), (1, u "java/lang/Object")] 113

def k0c0 : Code := { maxStack := 0, maxLocals := 1, code := object_method_1_code, exceptionTable := #[], attributes := #[] }
def k0m0 : Method := { name := "<init>", desc := "()V", sig := { parameters := [], returnType := none }, accessFlags := 1, code := some k0c0 }
/-- java/lang/Object -/
def k0 : Class := { plain "java/lang/Object" none with
  accessFlags := 33
  interfaces := #[]
  cf := some (fileOf pool0 8 #[] #[{ accessFlags := 1, nameIndex := 5, descriptorIndex := 6, attributes := #[] }] 33 0 #[] #[])
  fields := #[]
  methods := #[k0m0]
  instanceTypes := #[]
  staticTypes := #[]
  resolved := Array.replicate 124 none
  statics := none }

def pool1 : Array CpInfo := pool [(2, .class_ 4), (1, u "java/lang/Object"), (0, u "<init>"), (0, u "()V"), (0, .methodref 8 9), (0, .class_ 10), (0, .nameAndType 11 12), (0, u "com/example/tabmod/tabmod/tableau/DepSet"), (0, u "of"), (0, u "(I)Lcom/example/tabmod/tabmod/tableau/DepSet;"), (0, .methodref 8 14), (0, .nameAndType 15 16), (0, u "isEmpty"), (0, u "()Z"), (0, .methodref 8 18), (0, .nameAndType 19 20), (0, u "max"), (0, u "()I"), (0, .methodref 8 22), (0, .nameAndType 23 24), (0, u "within"), (0, u "(Lcom/example/tabmod/tabmod/tableau/DepSet;)Z"), (0, .fieldref 8 26), (0, .nameAndType 27 28), (0, u "EMPTY"), (0, u "Lcom/example/tabmod/tabmod/tableau/DepSet;"), (0, .methodref 8 30), (0, .nameAndType 31 12), (0, u "without"), (0, .class_ 33), (0, u "com/example/tabmod/tabmod/tableau/DepSetOfPinLaw"), (2, u "law"), (0, u "(III)Z")] 3

def k1m0 : Method := { name := "<init>", desc := "()V", sig := { parameters := [], returnType := none }, accessFlags := 1, code := none }
def k1c1 : Code := { maxStack := 2, maxLocals := 8, code := code, exceptionTable := #[], attributes := #[] }
def k1m1 : Method := { name := "law", desc := "(III)Z", sig := { parameters := [.int, .int, .int], returnType := some .boolean }, accessFlags := 9, code := some k1c1 }
/-- com/example/tabmod/tabmod/tableau/DepSetOfPinLaw -/
def k1 : Class := { plain "com/example/tabmod/tabmod/tableau/DepSetOfPinLaw" (some 0) with
  accessFlags := 49
  interfaces := #[]
  cf := some (fileOf pool1 32 #[] #[{ accessFlags := 1, nameIndex := 5, descriptorIndex := 6, attributes := #[] }, { accessFlags := 9, nameIndex := 36, descriptorIndex := 37, attributes := #[] }] 49 2 #[] #[])
  fields := #[]
  methods := #[k1m0, k1m1]
  instanceTypes := #[]
  staticTypes := #[]
  resolved := Array.replicate 41 none
  statics := none }

def pool2 : Array CpInfo := pool [(1, .methodref 2 3), (0, .class_ 4), (0, .nameAndType 5 6), (0, u "java/lang/Object"), (0, u "<init>"), (0, u "()V"), (0, .fieldref 8 9), (0, .class_ 10), (0, .nameAndType 11 12), (0, u "com/example/tabmod/tabmod/tableau/DepSet"), (0, u "levels"), (0, u "[I"), (0, .methodref 8 14), (0, .nameAndType 5 15), (0, u "([I)V"), (6, .methodref 23 24), (0, .class_ 25), (0, .nameAndType 26 27), (0, u "java/util/Arrays"), (0, u "binarySearch"), (0, u "([II)I"), (0, .methodref 29 30), (0, .class_ 31), (0, .nameAndType 32 33), (0, u "java/lang/System"), (0, u "arraycopy"), (0, u "(Ljava/lang/Object;ILjava/lang/Object;II)V"), (6, u "EMPTY"), (0, u "Lcom/example/tabmod/tabmod/tableau/DepSet;"), (2, u "of"), (0, u "(I)Lcom/example/tabmod/tabmod/tableau/DepSet;"), (0, u "isEmpty"), (0, u "()Z"), (1, u "max"), (0, u "()I"), (3, u "within"), (0, u "(Lcom/example/tabmod/tabmod/tableau/DepSet;)Z"), (0, u "without")] 6

def k2c0 : Code := { maxStack := 2, maxLocals := 2, code := prog_66_method_1_code, exceptionTable := #[], attributes := #[] }
def k2m0 : Method := { name := "<init>", desc := "([I)V", sig := { parameters := [(.array .int)], returnType := none }, accessFlags := 2, code := some k2c0 }
def k2c1 : Code := { maxStack := 6, maxLocals := 1, code := prog_66_method_2_code, exceptionTable := #[], attributes := #[] }
def k2m1 : Method := { name := "of", desc := "(I)Lcom/example/tabmod/tabmod/tableau/DepSet;", sig := { parameters := [.int], returnType := some (.object "com/example/tabmod/tabmod/tableau/DepSet") }, accessFlags := 8, code := some k2c1 }
def k2c2 : Code := { maxStack := 1, maxLocals := 1, code := prog_66_method_3_code, exceptionTable := #[], attributes := #[] }
def k2m2 : Method := { name := "isEmpty", desc := "()Z", sig := { parameters := [], returnType := some .boolean }, accessFlags := 0, code := some k2c2 }
def k2c3 : Code := { maxStack := 3, maxLocals := 1, code := prog_66_method_4_code, exceptionTable := #[], attributes := #[] }
def k2m3 : Method := { name := "max", desc := "()I", sig := { parameters := [], returnType := some .int }, accessFlags := 0, code := some k2c3 }
def k2c4 : Code := { maxStack := 2, maxLocals := 7, code := prog_66_method_6_code, exceptionTable := #[], attributes := #[] }
def k2m4 : Method := { name := "within", desc := "(Lcom/example/tabmod/tabmod/tableau/DepSet;)Z", sig := { parameters := [(.object "com/example/tabmod/tabmod/tableau/DepSet")], returnType := some .boolean }, accessFlags := 0, code := some k2c4 }
def k2c5 : Code := { maxStack := 6, maxLocals := 4, code := prog_66_method_7_code, exceptionTable := #[], attributes := #[] }
def k2m5 : Method := { name := "without", desc := "(I)Lcom/example/tabmod/tabmod/tableau/DepSet;", sig := { parameters := [.int], returnType := some (.object "com/example/tabmod/tabmod/tableau/DepSet") }, accessFlags := 0, code := some k2c5 }
/-- com/example/tabmod/tabmod/tableau/DepSet -/
def k2 : Class := { plain "com/example/tabmod/tabmod/tableau/DepSet" (some 0) with
  accessFlags := 48
  interfaces := #[]
  cf := some (fileOf pool2 8 #[] #[{ accessFlags := 2, nameIndex := 5, descriptorIndex := 15, attributes := #[] }, { accessFlags := 8, nameIndex := 44, descriptorIndex := 45, attributes := #[] }, { accessFlags := 0, nameIndex := 46, descriptorIndex := 47, attributes := #[] }, { accessFlags := 0, nameIndex := 49, descriptorIndex := 50, attributes := #[] }, { accessFlags := 0, nameIndex := 54, descriptorIndex := 55, attributes := #[] }, { accessFlags := 0, nameIndex := 56, descriptorIndex := 45, attributes := #[] }] 48 2 #[] #[{ accessFlags := 24, nameIndex := 40, descriptorIndex := 41, attributes := #[] }, { accessFlags := 18, nameIndex := 11, descriptorIndex := 12, attributes := #[] }])
  fields := #[{ name := "EMPTY", type := (.object "com/example/tabmod/tabmod/tableau/DepSet"), accessFlags := 24, slot := 0, constantValue := 0 }, { name := "levels", type := (.array .int), accessFlags := 18, slot := 0, constantValue := 0 }]
  methods := #[k2m0, k2m1, k2m2, k2m3, k2m4, k2m5]
  instanceTypes := #[(.array .int)]
  staticTypes := #[(.object "com/example/tabmod/tabmod/tableau/DepSet")]
  resolved := Array.replicate 63 none
  statics := some 0 }

def pool3 : Array CpInfo := pool [(2, .class_ 4), (1, u "java/lang/Object"), (0, u "<init>"), (0, u "()V"), (7, .class_ 16), (1, u "java/util/Arrays"), (57, .class_ 76), (1, u "java/util/Arrays$NaturalOrder"), (36, .class_ 115), (1, u "java/util/Arrays$LegacyMergeSort"), (1, u "Z"), (89, u "binarySearch0"), (1, .methodref 14 210), (0, .nameAndType 207 211), (0, u "([IIII)I"), (163, .class_ 376), (0, u "java/util/Arrays$ArrayList"), (68, u "$assertionsDisabled"), (269, u "MIN_ARRAY_SORT_GRAN"), (0, u "I"), (2, u "INSERTIONSORT_THRESHOLD"), (74, u "binarySearch"), (4, u "([II)I"), (175, .class_ 976), (0, u "java/util/Arrays$ArrayItr")] 52

def k3m0 : Method := { name := "<init>", desc := "()V", sig := { parameters := [], returnType := none }, accessFlags := 2, code := none }
def k3c1 : Code := { maxStack := 4, maxLocals := 2, code := jdk_65_method_57_code, exceptionTable := #[], attributes := #[] }
def k3m1 : Method := { name := "binarySearch", desc := "([II)I", sig := { parameters := [(.array .int), .int], returnType := some .int }, accessFlags := 9, code := some k3c1 }
def k3c2 : Code := { maxStack := 2, maxLocals := 8, code := jdk_65_method_59_code, exceptionTable := #[], attributes := #[] }
def k3m2 : Method := { name := "binarySearch0", desc := "([IIII)I", sig := { parameters := [(.array .int), .int, .int, .int], returnType := some .int }, accessFlags := 10, code := some k3c2 }
/-- java/util/Arrays -/
def k3 : Class := { plain "java/util/Arrays" (some 0) with
  accessFlags := 49
  interfaces := #[]
  cf := some (fileOf pool3 14 #[.nestMembers #[975, 375, 113, 74]] #[{ accessFlags := 2, nameIndex := 5, descriptorIndex := 6, attributes := #[] }, { accessFlags := 9, nameIndex := 794, descriptorIndex := 799, attributes := #[] }, { accessFlags := 10, nameIndex := 207, descriptorIndex := 211, attributes := #[] }] 49 2 #[] #[{ accessFlags := 26, nameIndex := 715, descriptorIndex := 716, attributes := #[] }, { accessFlags := 26, nameIndex := 719, descriptorIndex := 716, attributes := #[] }, { accessFlags := 4120, nameIndex := 445, descriptorIndex := 117, attributes := #[] }])
  fields := #[{ name := "MIN_ARRAY_SORT_GRAN", type := .int, accessFlags := 26, slot := 0, constantValue := 0 }, { name := "INSERTIONSORT_THRESHOLD", type := .int, accessFlags := 26, slot := 1, constantValue := 0 }, { name := "$assertionsDisabled", type := .boolean, accessFlags := 4120, slot := 2, constantValue := 0 }]
  methods := #[k3m0, k3m1, k3m2]
  instanceTypes := #[]
  staticTypes := #[.int, .int, .boolean]
  resolved := Array.replicate 1029 none
  statics := none }

def pool4 : Array CpInfo := pool [(2, .class_ 4), (1, u "java/lang/Object"), (0, u "<init>"), (0, u "()V"), (1, .class_ 10), (1, u "java/lang/System"), (0, u "allowSecurityManager"), (0, u "I"), (16, u "cons"), (0, u "Ljava/io/Console;"), (77, .class_ 110), (1, u "java/lang/System$CallersHolder"), (43, u "initialErrStream"), (0, u "Ljava/io/PrintStream;"), (19, u "security"), (0, u "Ljava/lang/SecurityManager;"), (31, .class_ 209), (0, u "java/lang/System$1"), (7, u "props"), (0, u "Ljava/util/Properties;"), (2, u "lineSeparator"), (0, u "Ljava/lang/String;"), (96, .class_ 321), (1, u "java/lang/System$LoggerFinder"), (5, .class_ 328), (0, u "java/lang/System$Logger"), (67, u "err"), (2, u "out"), (91, u "notSupportedJnuEncoding"), (15, u "in"), (17, u "initialIn"), (0, u "Ljava/io/InputStream;"), (35, u "bootLayer"), (0, u "Ljava/lang/ModuleLayer;"), (99, .class_ 664), (0, u "java/lang/System$2"), (9, u "NEVER"), (2, u "MAYBE"), (49, u "arraycopy"), (0, u "(Ljava/lang/Object;ILjava/lang/Object;II)V"), (72, .class_ 802), (0, u "java/lang/System$Logger$Level")] 31

def k4m0 : Method := { name := "<init>", desc := "()V", sig := { parameters := [], returnType := none }, accessFlags := 2, code := none }
def k4m1 : Method := { name := "arraycopy", desc := "(Ljava/lang/Object;ILjava/lang/Object;II)V", sig := { parameters := [(.object "java/lang/Object"), .int, (.object "java/lang/Object"), .int, .int], returnType := none }, accessFlags := 265, code := none }
/-- java/lang/System -/
def k4 : Class := { plain "java/lang/System" (some 0) with
  accessFlags := 49
  interfaces := #[]
  cf := some (fileOf pool4 8 #[.nestMembers #[319, 327, 801, 108, 663, 208]] #[{ accessFlags := 2, nameIndex := 5, descriptorIndex := 6, attributes := #[] }, { accessFlags := 265, nameIndex := 727, descriptorIndex := 728, attributes := #[] }] 49 2 #[] #[{ accessFlags := 25, nameIndex := 507, descriptorIndex := 526, attributes := #[] }, { accessFlags := 25, nameIndex := 399, descriptorIndex := 155, attributes := #[] }, { accessFlags := 25, nameIndex := 396, descriptorIndex := 155, attributes := #[] }, { accessFlags := 10, nameIndex := 525, descriptorIndex := 526, attributes := #[] }, { accessFlags := 26, nameIndex := 674, descriptorIndex := 12, attributes := #[] }, { accessFlags := 26, nameIndex := 677, descriptorIndex := 12, attributes := #[] }, { accessFlags := 10, nameIndex := 11, descriptorIndex := 12, attributes := #[] }, { accessFlags := 74, nameIndex := 175, descriptorIndex := 176, attributes := #[] }, { accessFlags := 10, nameIndex := 491, descriptorIndex := 222, attributes := #[] }, { accessFlags := 74, nameIndex := 29, descriptorIndex := 30, attributes := #[] }, { accessFlags := 74, nameIndex := 154, descriptorIndex := 155, attributes := #[] }, { accessFlags := 10, nameIndex := 217, descriptorIndex := 218, attributes := #[] }, { accessFlags := 10, nameIndex := 221, descriptorIndex := 222, attributes := #[] }, { accessFlags := 8, nameIndex := 562, descriptorIndex := 563, attributes := #[] }])
  fields := #[{ name := "in", type := (.object "java/io/InputStream"), accessFlags := 25, slot := 0, constantValue := 0 }, { name := "out", type := (.object "java/io/PrintStream"), accessFlags := 25, slot := 1, constantValue := 0 }, { name := "err", type := (.object "java/io/PrintStream"), accessFlags := 25, slot := 2, constantValue := 0 }, { name := "initialIn", type := (.object "java/io/InputStream"), accessFlags := 10, slot := 3, constantValue := 0 }, { name := "NEVER", type := .int, accessFlags := 26, slot := 4, constantValue := 0 }, { name := "MAYBE", type := .int, accessFlags := 26, slot := 5, constantValue := 0 }, { name := "allowSecurityManager", type := .int, accessFlags := 10, slot := 6, constantValue := 0 }, { name := "security", type := (.object "java/lang/SecurityManager"), accessFlags := 74, slot := 7, constantValue := 0 }, { name := "notSupportedJnuEncoding", type := (.object "java/lang/String"), accessFlags := 10, slot := 8, constantValue := 0 }, { name := "cons", type := (.object "java/io/Console"), accessFlags := 74, slot := 9, constantValue := 0 }, { name := "initialErrStream", type := (.object "java/io/PrintStream"), accessFlags := 74, slot := 10, constantValue := 0 }, { name := "props", type := (.object "java/util/Properties"), accessFlags := 10, slot := 11, constantValue := 0 }, { name := "lineSeparator", type := (.object "java/lang/String"), accessFlags := 10, slot := 12, constantValue := 0 }, { name := "bootLayer", type := (.object "java/lang/ModuleLayer"), accessFlags := 8, slot := 13, constantValue := 0 }]
  methods := #[k4m0, k4m1]
  instanceTypes := #[]
  staticTypes := #[(.object "java/io/InputStream"), (.object "java/io/PrintStream"), (.object "java/io/PrintStream"), (.object "java/io/InputStream"), .int, .int, .int, (.object "java/lang/SecurityManager"), (.object "java/lang/String"), (.object "java/io/Console"), (.object "java/io/PrintStream"), (.object "java/util/Properties"), (.object "java/lang/String"), (.object "java/lang/ModuleLayer")]
  resolved := Array.replicate 834 none
  statics := none }

def pool5 : Array CpInfo := pool [(1, u "java/lang/Cloneable"), (0, .class_ 1), (0, u "java/lang/Object"), (0, .class_ 3)] 3

/-- java/lang/Cloneable -/
def k5 : Class := { plain "java/lang/Cloneable" (some 0) with
  accessFlags := 1537
  interfaces := #[]
  cf := some (fileOf pool5 2 #[] #[] 1537 4 #[] #[])
  fields := #[]
  methods := #[]
  instanceTypes := #[]
  staticTypes := #[]
  resolved := Array.replicate 8 none
  statics := none }

def pool6 : Array CpInfo := pool [(1, u "java/io/Serializable"), (0, .class_ 1), (0, u "java/lang/Object"), (0, .class_ 3)] 3

/-- java/io/Serializable -/
def k6 : Class := { plain "java/io/Serializable" (some 0) with
  accessFlags := 1537
  interfaces := #[]
  cf := some (fileOf pool6 2 #[] #[] 1537 4 #[] #[])
  fields := #[]
  methods := #[]
  instanceTypes := #[]
  staticTypes := #[]
  resolved := Array.replicate 8 none
  statics := none }

/-- the primitive byte -/
def k7 : Class := { plain "byte" none with kind := .primitive 'B', accessFlags := 0x411 }
/-- [B -/
def k8 : Class := { plain "[B" (some 0) with kind := .array 7 .byte, interfaces := #[5, 6], accessFlags := 1041 }

/-- the primitive int -/
def k9 : Class := { plain "int" none with kind := .primitive 'I', accessFlags := 0x411 }
/-- [I -/
def k10 : Class := { plain "[I" (some 0) with kind := .array 9 .int, interfaces := #[5, 6], accessFlags := 1041 }

def heap : Heap := #[{ cls := 2, slots := #[.ref 1], vm := .statics 2 },
  { cls := 2, slots := #[.ref 2], vm := .none },
  { cls := 10, slots := #[], vm := .none }]
def classes : Array Class := #[k0, k1, k2, k3, k4, k5, k6, k7, k8, k9, k10]
def interned : List (Array UInt16 × Addr) := []
def slotsUsed : Nat := 2
def theMethod : MethodId := ⟨1, 1⟩
def args0 : Array Value := #[.int 5, .int 300, .int 77]
def aboutOver (below : List Frame) : State where
  vm := { classes := classes, interned := interned.toArray }
  heap := heap
  slotsUsed := slotsUsed
  threads := #[{ frames := .invoking theMethod args0 :: below }]
def below0 : List Frame := [.native { method := ⟨0, 0⟩, args := #[] }]
def about1 : State := aboutOver below0
def p0 : Program := .bare "" "" ""
def e0 : Env := launch0.env 0 0 0
theorem w_frames : about1.frames = Frame.invoking theMethod args0 :: below0 := rfl
set_option maxRecDepth 65536 in
theorem w_args : argsFit about1.vm theMethod args0 = true := by decide +kernel
set_option maxRecDepth 65536 in
theorem w_heap : heapFits about1 = true := by decide +kernel
set_option maxRecDepth 65536 in
theorem w_runnable : about1.curStatus? = some .runnable := by decide +kernel
set_option maxRecDepth 65536 in
theorem w_alone : about1.alone = true := by decide +kernel
set_option maxRecDepth 65536 in
theorem w_named : about1.methodNamed? x = some theMethod := by decide +kernel
set_option maxRecDepth 65536 in
theorem w_hears : about1.hears theMethod below0 = true := by decide +kernel
set_option maxRecDepth 65536 in
theorem w_ripe : about1.ripe theMethod args0 below0 = true := by decide +kernel
theorem w_running : about1.status = .running := rfl
set_option maxRecDepth 65536 in
theorem w_room : about1.hasRoom e0.platform room_1 = true :=
  launch0.hasRoom_least _ room_1 (by decide +kernel) (by decide +kernel) (by decide +kernel) (by decide +kernel) (by decide +kernel) (by decide +kernel)
theorem allAtoms_all (ts : List Jvm.Cond) (a : Array Jvm.Value) (st : Jvm.State) : (allAtoms ts).before a st = ts.all (fun c => c.before a st) := by
  induction ts with
  | nil => rfl
  | cons c t ih =>
    show (Jvm.Cond.and c (allAtoms t)).before a st = _
    rw [Jvm.Cond.before_and, ih, List.all_cons]
def words1 : List Jvm.Cond := Jvm.Cond.code x code maxLocals ret :: tables_1
/-- a 'code' word, met by the world's own term for the bytes: nothing is compared byte by byte -/
theorem code_word {y : MethodName} {bytes : ByteArray} {mx : Nat} {rt : Option FieldType} {a : Array Value} {s : State} {m : MethodId} {meth : Method} {c : Code} (h1 : s.methodNamed? y = some m) (h2 : s.vm.method? m = some meth) (h3 : meth.code = some c) (h4 : c.code = bytes)
    (h5 : (c.maxLocals == mx && c.exceptionTable.isEmpty && decide (c.maxStack ≤ mostOperands) && decide (meth.sig.returnType = rt) && !meth.locks && decide (parseMethodDescriptor y.desc = some meth.sig)) = true) : (Jvm.Cond.code y bytes mx rt).before a s = true := by
  simp only [Bool.and_eq_true, beq_iff_eq, Bool.not_eq_true', decide_eq_true_eq] at h5
  obtain ⟨⟨⟨⟨⟨g1, g2⟩, g3⟩, g4⟩, g5⟩, g6⟩ := h5
  simp [Cond.before, Cond.holds, Cond.value, h1, h2, h3, h4, g1, g2, g3, g4, g5, g6]
def isCode : Jvm.Cond → Bool
  | .code _ _ _ _ => true
  | _ => false
theorem all_split {L : List Jvm.Cond} {P : Jvm.Cond → Bool} (h1 : L.all (fun c => isCode c || P c) = true) (h2 : ∀ c ∈ L.filter isCode, P c = true) : L.all P = true := by
  refine List.all_eq_true.mpr fun c hc => ?_
  have h := List.all_eq_true.mp h1 c hc
  rcases Bool.eq_false_or_eq_true (isCode c) with hi | hi
  · exact h2 c (List.mem_filter.mpr ⟨hc, hi⟩)
  · simpa [hi] using h
set_option maxRecDepth 65536 in
theorem w_c0 : (Jvm.Cond.code x code maxLocals ret).before args0 about1 = true := code_word (m := ⟨1, 1⟩) (meth := k1m1) (c := k1c1) (by decide +kernel) rfl rfl rfl (by decide +kernel)
set_option maxRecDepth 65536 in
theorem w_c1 : (Jvm.Cond.code ({ cls := "com/example/tabmod/tabmod/tableau/DepSet", name := "of", desc := "(I)Lcom/example/tabmod/tabmod/tableau/DepSet;" } : Jvm.MethodName) prog_66_method_2_code (1 : Nat) (Option.some (Jvm.ClassFile.FieldType.object "com/example/tabmod/tabmod/tableau/DepSet"))).before args0 about1 = true := code_word (m := ⟨2, 1⟩) (meth := k2m1) (c := k2c1) (by decide +kernel) rfl rfl rfl (by decide +kernel)
set_option maxRecDepth 65536 in
theorem w_c2 : (Jvm.Cond.code ({ cls := "com/example/tabmod/tabmod/tableau/DepSet", name := "<init>", desc := "([I)V" } : Jvm.MethodName) prog_66_method_1_code (2 : Nat) (Option.none : Option Jvm.ClassFile.FieldType)).before args0 about1 = true := code_word (m := ⟨2, 0⟩) (meth := k2m0) (c := k2c0) (by decide +kernel) rfl rfl rfl (by decide +kernel)
set_option maxRecDepth 65536 in
theorem w_c3 : (Jvm.Cond.code ({ cls := "java/lang/Object", name := "<init>", desc := "()V" } : Jvm.MethodName) object_method_1_code (1 : Nat) (Option.none : Option Jvm.ClassFile.FieldType)).before args0 about1 = true := code_word (m := ⟨0, 0⟩) (meth := k0m0) (c := k0c0) (by decide +kernel) rfl rfl rfl (by decide +kernel)
set_option maxRecDepth 65536 in
theorem w_c4 : (Jvm.Cond.code ({ cls := "com/example/tabmod/tabmod/tableau/DepSet", name := "isEmpty", desc := "()Z" } : Jvm.MethodName) prog_66_method_3_code (1 : Nat) (Option.some Jvm.ClassFile.FieldType.boolean)).before args0 about1 = true := code_word (m := ⟨2, 2⟩) (meth := k2m2) (c := k2c2) (by decide +kernel) rfl rfl rfl (by decide +kernel)
set_option maxRecDepth 65536 in
theorem w_c5 : (Jvm.Cond.code ({ cls := "com/example/tabmod/tabmod/tableau/DepSet", name := "max", desc := "()I" } : Jvm.MethodName) prog_66_method_4_code (1 : Nat) (Option.some Jvm.ClassFile.FieldType.int)).before args0 about1 = true := code_word (m := ⟨2, 3⟩) (meth := k2m3) (c := k2c3) (by decide +kernel) rfl rfl rfl (by decide +kernel)
set_option maxRecDepth 65536 in
theorem w_c6 : (Jvm.Cond.code ({ cls := "com/example/tabmod/tabmod/tableau/DepSet", name := "within", desc := "(Lcom/example/tabmod/tabmod/tableau/DepSet;)Z" } : Jvm.MethodName) prog_66_method_6_code (7 : Nat) (Option.some Jvm.ClassFile.FieldType.boolean)).before args0 about1 = true := code_word (m := ⟨2, 4⟩) (meth := k2m4) (c := k2c4) (by decide +kernel) rfl rfl rfl (by decide +kernel)
set_option maxRecDepth 65536 in
theorem w_c7 : (Jvm.Cond.code ({ cls := "com/example/tabmod/tabmod/tableau/DepSet", name := "without", desc := "(I)Lcom/example/tabmod/tabmod/tableau/DepSet;" } : Jvm.MethodName) prog_66_method_7_code (4 : Nat) (Option.some (Jvm.ClassFile.FieldType.object "com/example/tabmod/tabmod/tableau/DepSet"))).before args0 about1 = true := code_word (m := ⟨2, 5⟩) (meth := k2m5) (c := k2c5) (by decide +kernel) rfl rfl rfl (by decide +kernel)
set_option maxRecDepth 65536 in
theorem w_c8 : (Jvm.Cond.code ({ cls := "java/util/Arrays", name := "binarySearch", desc := "([II)I" } : Jvm.MethodName) jdk_65_method_57_code (2 : Nat) (Option.some Jvm.ClassFile.FieldType.int)).before args0 about1 = true := code_word (m := ⟨3, 1⟩) (meth := k3m1) (c := k3c1) (by decide +kernel) rfl rfl rfl (by decide +kernel)
set_option maxRecDepth 65536 in
theorem w_c9 : (Jvm.Cond.code ({ cls := "java/util/Arrays", name := "binarySearch0", desc := "([IIII)I" } : Jvm.MethodName) jdk_65_method_59_code (8 : Nat) (Option.some Jvm.ClassFile.FieldType.int)).before args0 about1 = true := code_word (m := ⟨3, 2⟩) (meth := k3m2) (c := k3c2) (by decide +kernel) rfl rfl rfl (by decide +kernel)
def codes1 : List Jvm.Cond := [Jvm.Cond.code x code maxLocals ret, Jvm.Cond.code ({ cls := "com/example/tabmod/tabmod/tableau/DepSet", name := "of", desc := "(I)Lcom/example/tabmod/tabmod/tableau/DepSet;" } : Jvm.MethodName) prog_66_method_2_code (1 : Nat) (Option.some (Jvm.ClassFile.FieldType.object "com/example/tabmod/tabmod/tableau/DepSet")), Jvm.Cond.code ({ cls := "com/example/tabmod/tabmod/tableau/DepSet", name := "<init>", desc := "([I)V" } : Jvm.MethodName) prog_66_method_1_code (2 : Nat) (Option.none : Option Jvm.ClassFile.FieldType), Jvm.Cond.code ({ cls := "java/lang/Object", name := "<init>", desc := "()V" } : Jvm.MethodName) object_method_1_code (1 : Nat) (Option.none : Option Jvm.ClassFile.FieldType), Jvm.Cond.code ({ cls := "com/example/tabmod/tabmod/tableau/DepSet", name := "isEmpty", desc := "()Z" } : Jvm.MethodName) prog_66_method_3_code (1 : Nat) (Option.some Jvm.ClassFile.FieldType.boolean), Jvm.Cond.code ({ cls := "com/example/tabmod/tabmod/tableau/DepSet", name := "max", desc := "()I" } : Jvm.MethodName) prog_66_method_4_code (1 : Nat) (Option.some Jvm.ClassFile.FieldType.int), Jvm.Cond.code ({ cls := "com/example/tabmod/tabmod/tableau/DepSet", name := "within", desc := "(Lcom/example/tabmod/tabmod/tableau/DepSet;)Z" } : Jvm.MethodName) prog_66_method_6_code (7 : Nat) (Option.some Jvm.ClassFile.FieldType.boolean), Jvm.Cond.code ({ cls := "com/example/tabmod/tabmod/tableau/DepSet", name := "without", desc := "(I)Lcom/example/tabmod/tabmod/tableau/DepSet;" } : Jvm.MethodName) prog_66_method_7_code (4 : Nat) (Option.some (Jvm.ClassFile.FieldType.object "com/example/tabmod/tabmod/tableau/DepSet")), Jvm.Cond.code ({ cls := "java/util/Arrays", name := "binarySearch", desc := "([II)I" } : Jvm.MethodName) jdk_65_method_57_code (2 : Nat) (Option.some Jvm.ClassFile.FieldType.int), Jvm.Cond.code ({ cls := "java/util/Arrays", name := "binarySearch0", desc := "([IIII)I" } : Jvm.MethodName) jdk_65_method_59_code (8 : Nat) (Option.some Jvm.ClassFile.FieldType.int)]
set_option maxRecDepth 65536 in
theorem codes_eq : words1.filter isCode = codes1 := rfl
theorem w_codes : ∀ c ∈ words1.filter isCode, c.before args0 about1 = true := by
  rw [codes_eq]
  intro c hc
  simp only [codes1, List.mem_cons, List.not_mem_nil, or_false] at hc
  rcases hc with rfl | rfl | rfl | rfl | rfl | rfl | rfl | rfl | rfl | rfl
  · exact w_c0
  · exact w_c1
  · exact w_c2
  · exact w_c3
  · exact w_c4
  · exact w_c5
  · exact w_c6
  · exact w_c7
  · exact w_c8
  · exact w_c9
set_option maxRecDepth 65536 in
theorem w_t1 : (words1.take 24).all (fun c => isCode c || c.before args0 about1) = true := by decide +kernel
set_option maxRecDepth 65536 in
theorem w_t2 : ((words1.drop 24).take 24).all (fun c => isCode c || c.before args0 about1) = true := by decide +kernel
set_option maxRecDepth 65536 in
theorem w_t3 : ((words1.drop 24).drop 24).all (fun c => isCode c || c.before args0 about1) = true := by decide +kernel
theorem w_tables : (allAtoms (Jvm.Cond.code x code maxLocals ret :: tables_1)).before args0 about1 = true := by
  rw [allAtoms_all]
  show words1.all (fun c => c.before args0 about1) = true
  refine all_split ?_ w_codes
  rw [← List.take_append_drop 24 words1, List.all_append, w_t1, ← List.take_append_drop 24 (words1.drop 24), List.all_append, w_t2, w_t3]
  rfl
set_option maxRecDepth 65536 in
theorem w_case : (Jvm.Cond.and given_1 narrow_1).before args0 about1 = true := by decide +kernel
theorem w_applies : (headSpec (Jvm.Cond.code x code maxLocals ret :: tables_1) room_1).applies x e0.platform about1 = true :=
  (Spec.applies_iff w_frames).mpr ⟨w_running, w_runnable, w_alone, w_named, w_hears, w_ripe, w_room, w_tables⟩
theorem atStart : AtStart classFile x code maxLocals ret World_1 tables_1 room_1 Calls_1 rest_1 Pre_1 launch0 p0 e0 about1 theMethod args0 below0 :=
  ⟨lists_1, trivial, launch0.admits_env _ _ _, launch0.least_env, fairChoices_fair.cas, fairChoices_fair.clock, w_frames, w_args, w_heap, w_applies, trivial, trivial, w_case⟩
end start1
theorem witness_1 : WitnessClaimed_1 := ⟨start1.p0, start1.e0, start1.about1, start1.theMethod, start1.args0, start1.below0, start1.atStart⟩
end Jvm.Pilot.@@N@@
