import JvmDerived
import JvmDerived.Pilot.@@N@@Statement
import JvmDerived.Pilot.@@N@@Code
set_option linter.unusedVariables false
set_option linter.unusedSimpArgs false
namespace Jvm.Pilot.@@N@@
open Jvm Jvm.ClassFile Sem Op Lib Jvm.Free Jvm.Stand Jvm.LawKit Jvm.RoadKit Bundle Jvm.Pilot.@@N@@.Jvm.D
/-! own_Out: from the frame g over T the run comes to a return of which Q speaks. A walk is a proof of own_Out from its entry, backwards step by step; so it may fork. -/
section OwnKit
variable {p : Program} {l : Launch} {e : Env} {R : Room} {s : State} {m : MethodId} {args : Array Value} {below : List Frame} {meth : Method} {c : Code} {T : State} {locs : List Loc} {cells slots kc ks : Nat} {Z : State} {a0 : Array Value} {h h' h0 : Heap} {Q : Option Value → Heap → List Loc → Prop} {g : JFrame}
def own_Out (p : Program) (e : Env) (below : List Frame) (s : State) (Q : Option Value → Heap → List Loc → Prop) (kc ks : Nat) (T : State) (g : JFrame) : Prop :=
  ∃ U o, Steps p.tables e below (T.setTop g) U ∧ U.status = .running ∧ Ended U below o ∧ ∃ v L, o = .returned v ∧ Q v U.heap L ∧ FrameEnd s o U L kc ks
theorem own_st (T' : State) (g' : JFrame) (st : ∀ t, Steps p.tables e below (T'.setTop g') t → Steps p.tables e below (T.setTop g) t) (k : own_Out p e below s Q kc ks T' g') : own_Out p e below s Q kc ks T g := by
  obtain ⟨U, o, h1, h2⟩ := k; exact ⟨U, o, st _ h1, h2⟩
theorem own_tr (T' : State) (g' : JFrame) (st : Steps p.tables e below (T.setTop g) (T'.setTop g')) (k : own_Out p e below s Q kc ks T' g') : own_Out p e below s Q kc ks T g := by
  obtain ⟨U, o, h1, h2⟩ := k; exact ⟨U, o, st.trans h1, h2⟩
theorem own_ret (X : Stand p l e R s m args below meth c T locs cells slots) (hx : p.tables.exec = Jvm.exec) (hlk : meth.locks = false) {pc : Nat} {Ls : Array Slot} {w : Value} {t : FieldType} {i : Instr} {rest : List Value} (hret : meth.sig.returnType = some t) (hn : narrow t w = w)
    (hi : (i = .ireturn ∧ (t = .int ∨ t = .boolean ∨ t = .byte ∨ t = .char ∨ t = .short) ∧ ∃ z, w = .int z) ∨ (i = .lreturn ∧ t = .long ∧ ∃ z, w = .long z) ∨ (i = .dreturn ∧ t = .double ∧ ∃ z, w = .double z) ∨ (i = .freturn ∧ t = .float ∧ ∃ z, w = .float z) ∨ (i = .areturn ∧ t.isReference = true ∧ w.isRef = true))
    (hd : decode c.code pc = .ok (i, 1)) (hc : cells ≤ kc) (hs : slots ≤ ks) (hq : Q (some w) T.heap locs) : own_Out p e below s Q kc ks T (mkF m pc Ls (w :: rest)) := by
  obtain ⟨fs, hr, hrun, hended, hW, hsame⟩ := X.leave (v := some w) (fun h => by rw [hret] at h; cases h) hlk
  exact ⟨_, _, retOut X hx hret hn hi hd hr, hrun, hended, _, _, rfl, hq, ⟨_, rfl⟩, hW, hsame.mono hc hs⟩
theorem own_retI (X : Stand p l e R s m args below meth c T locs cells slots) (hx : p.tables.exec = Jvm.exec) (hlk : meth.locks = false) {pc : Nat} {Ls : Array Slot} {z : Int32} {rest : List Value} (hret : meth.sig.returnType = some .int)
    (hd : decode c.code pc = .ok (.ireturn, 1)) (hc : cells ≤ kc) (hs : slots ≤ ks) (hq : Q (some (.int z)) T.heap locs) : own_Out p e below s Q kc ks T (mkF m pc Ls (.int z :: rest)) :=
  own_ret X hx hlk hret rfl (Or.inl ⟨rfl, Or.inl rfl, z, rfl⟩) hd hc hs hq
theorem own_retJ (X : Stand p l e R s m args below meth c T locs cells slots) (hx : p.tables.exec = Jvm.exec) (hlk : meth.locks = false) {pc : Nat} {Ls : Array Slot} {z : Int64} {rest : List Value} (hret : meth.sig.returnType = some .long)
    (hd : decode c.code pc = .ok (.lreturn, 1)) (hc : cells ≤ kc) (hs : slots ≤ ks) (hq : Q (some (.long z)) T.heap locs) : own_Out p e below s Q kc ks T (mkF m pc Ls (.long z :: rest)) :=
  own_ret X hx hlk hret rfl (Or.inr (Or.inl ⟨rfl, rfl, z, rfl⟩)) hd hc hs hq
theorem own_nref {t : FieldType} {w : Value} (ht : t.isReference = true) (hw : w.isRef = true) : narrow t w = w := by
  cases t <;> first | (cases ht; done) | (cases w <;> first | rfl | (cases hw; done))
theorem own_retA (X : Stand p l e R s m args below meth c T locs cells slots) (hx : p.tables.exec = Jvm.exec) (hlk : meth.locks = false) {pc : Nat} {Ls : Array Slot} {w : Value} {t : FieldType} {rest : List Value} (hret : meth.sig.returnType = some t) (ht : t.isReference = true) (hw : w.isRef = true)
    (hd : decode c.code pc = .ok (.areturn, 1)) (hc : cells ≤ kc) (hs : slots ≤ ks) (hq : Q (some w) T.heap locs) : own_Out p e below s Q kc ks T (mkF m pc Ls (w :: rest)) :=
  own_ret X hx hlk hret (own_nref ht hw) (Or.inr (Or.inr (Or.inr (Or.inr ⟨rfl, ht, hw⟩)))) hd hc hs hq
theorem own_retN (X : Stand p l e R s m args below meth c T locs cells slots) (hx : p.tables.exec = Jvm.exec) (hlk : meth.locks = false) {pc : Nat} {Ls : Array Slot} {z : Int32} {t : FieldType} {rest : List Value} (hret : meth.sig.returnType = some t) (ht : t = .boolean ∨ t = .byte ∨ t = .char ∨ t = .short)
    (hd : decode c.code pc = .ok (.ireturn, 1)) (hc : cells ≤ kc) (hs : slots ≤ ks) (hq : Q (some (.int (nar t z))) T.heap locs) : own_Out p e below s Q kc ks T (mkF m pc Ls (.int z :: rest)) := by
  obtain ⟨fs, hr, hrun, hended, hW, hsame⟩ := X.leave (v := some (.int (nar t z))) (fun h => by rw [hret] at h; cases h) hlk
  exact ⟨_, _, retN X hx hret ht hd hr, hrun, hended, _, _, rfl, hq, ⟨_, rfl⟩, hW, hsame.mono hc hs⟩
theorem own_ret0 (X : Stand p l e R s m args below meth c T locs cells slots) (hx : p.tables.exec = Jvm.exec) (hlk : meth.locks = false) {pc : Nat} {Ls : Array Slot} (hret : meth.sig.returnType = none)
    (hd : decode c.code pc = .ok (.return_, 1)) (hc : cells ≤ kc) (hs : slots ≤ ks) (hq : Q none T.heap locs) : own_Out p e below s Q kc ks T (mkF m pc Ls []) := by
  obtain ⟨fs, hr, hrun, hended, hW, hsame⟩ := X.leave (v := none) (fun _ => rfl) hlk
  exact ⟨_, _, X.returnOut hx hret hd hr, hrun, hended, _, _, rfl, hq, ⟨_, rfl⟩, hW, hsame.mono hc hs⟩
/-- a method's contract at the arguments as' over the heap h0 -/
def own_Met (l : Launch) (Z : State) (y : MethodName) (bytes : ByteArray) (maxL : Nat) (ret : Option FieldType) (rm : Room) (as' : Array Value) (h0 : Heap) (Q : Option Value → Heap → List Loc → Prop) : Prop :=
  ∀ ws : List Jvm.Cond, MetFree l y (head1 (Jvm.Cond.code y bytes maxL ret :: ws) rm) (fun a U => a = as' ∧ Z.Warmed39 U.vm ∧ U.heap = h0) (fun _ _ _ _ _ => True) (fun _ U o U' => ∃ v L, o = .returned v ∧ Q v U'.heap L ∧ FrameEnd U o U' L rm.cells rm.slots)
theorem own_body {y : MethodName} {bytes : ByteArray} {maxL : Nat} {ret : Option FieldType} {rm : Room} {as' : Array Value} (Ls : Array Slot) (hp : plainFor y = true) (hef : ∀ m, entryFrame m as' maxL = mkF m 0 Ls [])
    (hbody : ∀ (p : Program) (e : Env) (s : State) (m : MethodId) (below : List Frame) (meth : Method) (c : Code) (s₁ : State), Stand p l e rm s m as' below meth c s₁ [] 0 0 → p.tables.exec = Jvm.exec → c.code = bytes → c.maxLocals = maxL → meth.sig.returnType = ret → meth.locks = false → Z.Warmed39 s.vm → s.vm.findClass y.cls = some m.cls → meth.name = y.name → s₁.heap = h0 →
      own_Out p e below s Q rm.cells rm.slots s₁ (mkF m 0 Ls [])) : own_Met l Z y bytes maxL ret rm as' h0 Q := by
  intro ws
  refine MetFree.of_bodySF hp hisR ?_
  intro p e s m args below meth c s₁ Bd hml0 hP hK
  obtain ⟨rfl, hZ, hh⟩ := hP
  have X0 : Stand p l e rm s m args below meth c s₁ [] 0 0 := Stand.of_body Bd
  have e0 : s₁.heap = h0 := by rw [← hh, Bd.state]; rfl
  obtain ⟨U, o, h1, h2⟩ := hbody p e s m below meth c s₁ X0 Bd.exec Bd.bytes hml0 Bd.returns Bd.notSynchronized hZ (findClass_of_methodNamed Bd.named) (name_of_methodNamed Bd.named Bd.method).1 e0
  exact ⟨U, o, castTop (hef m) h1, h2⟩
theorem own_callS (X : Stand p l e R s m args below meth c T locs cells slots) (hx : p.tables.exec = Jvm.exec) (hZ : Z.Warmed39 s.vm) {own : String} {index : Nat} {y : MethodName} {bytes : ByteArray} {maxL : Nat} {ret : Option FieldType} (hown : s.vm.findClass own = some m.cls)
    (w1 : (Cond.methodLink own index y).before a0 Z = true) (w2 : (Cond.static y).before a0 Z = true) (w3 : (Cond.initialized y.cls).before a0 Z = true) (w4 : (Cond.code y bytes maxL ret).before a0 Z = true) (hy : y.cls ≠ "java/lang/invoke/MethodHandle" ∧ y.cls ≠ "java/lang/invoke/VarHandle")
    {rm : Room} (argsL rest : List Value) {Qc : Option Value → Heap → List Loc → Prop} (M : own_Met l Z y bytes maxL ret rm argsL.toArray h Qc) (W : Nat) (hf : rm.frames + 1 ≤ R.frames) (hl : W + (maxL + 11) + rm.locals ≤ R.locals) (eT : T.heap = h)
    {pc : Nat} {Ls : Array Slot} {st : List Value} (hsize : Ls.size = c.maxLocals) (hlen : ∀ sig, parseMethodDescriptor y.desc = some sig → argsL.length = sig.parameters.length) (hstack : st = argsL.reverse ++ rest) (hW : (rest.map fun v => v.category).sum ≤ W)
    (hd : decode c.code pc = .ok (.invokestatic index, 3)) (hc : cells + rm.cells ≤ R.cells) (hs : slots + rm.slots ≤ R.slots)
    (k : ∀ v T' L, Stand p l e R s m args below meth c T' (locs ++ L) (cells + rm.cells) (slots + rm.slots) → Qc v T'.heap L → own_Out p e below s Q kc ks T' (mkF m (pc + 3) Ls (v.toList ++ rest))) : own_Out p e below s Q kc ks T (mkF m pc Ls st) := by
  obtain ⟨v, vm1, ⟨T', L', c', n'⟩, -, X', ⟨L, hQ, r1, r2, r3⟩, stp⟩ := Jvm.LawKit.callS X hx (y := y) (bytes := bytes) (maxL := maxL) (ret := ret) hown (mvT hZ w1) (mvT hZ w2) (mvT hZ w3) (mvT hZ w4) hy (backOf (W := W) (M []) hZ w4 w3 hf hl) (g := mkF m pc Ls st) rfl hsize (argsL := argsL) (rest := rest) hlen hstack (by show 2 * 0 + _ ≤ _; omega) hd (fun _ _ => ⟨rfl, eT, hc, hs⟩)
  dsimp only [Pt.U, Pt.locs, Pt.cells, Pt.slots] at X' r1 r2 r3 stp hQ
  subst r1 r2 r3
  exact own_st _ _ stp (k v T' L X' hQ)
theorem own_callC (X : Stand p l e R s m args below meth c T locs cells slots) (hx : p.tables.exec = Jvm.exec) (hZ : Z.Warmed39 s.vm) {own : String} {index : Nat} {y : MethodName} {bytes : ByteArray} {maxL : Nat} (hy1 : y.name = "<init>") (hown : s.vm.findClass own = some m.cls)
    (w1 : (Cond.methodLink own index y).before a0 Z = true) (w2 : (Cond.instanceMethod y).before a0 Z = true) (w3 : (Cond.initialized y.cls).before a0 Z = true) (w4 : (Cond.code y bytes maxL none).before a0 Z = true) (hy : y.cls ≠ "java/lang/invoke/MethodHandle" ∧ y.cls ≠ "java/lang/invoke/VarHandle")
    {rm : Room} (a : Addr) (argsL rest : List Value) {Qc : Option Value → Heap → List Loc → Prop} (M : own_Met l Z y bytes maxL none rm (.ref a :: argsL).toArray h Qc) (W : Nat) (hf : rm.frames + 1 ≤ R.frames) (hl : W + (maxL + 11) + rm.locals ≤ R.locals) (eT : T.heap = h)
    {pc : Nat} {Ls : Array Slot} {st : List Value} (hsize : Ls.size = c.maxLocals) (hlen : ∀ sig, parseMethodDescriptor y.desc = some sig → argsL.length = sig.parameters.length) (hstack : st = argsL.reverse ++ .ref a :: rest) (hW : (rest.map fun v => v.category).sum ≤ W)
    (hd : decode c.code pc = .ok (.invokespecial index, 3)) (hc : cells + rm.cells ≤ R.cells) (hs : slots + rm.slots ≤ R.slots)
    (k : ∀ v T' L, Stand p l e R s m args below meth c T' (locs ++ L) (cells + rm.cells) (slots + rm.slots) → Qc v T'.heap L → own_Out p e below s Q kc ks T' (mkF m (pc + 3) Ls (v.toList ++ rest))) : own_Out p e below s Q kc ks T (mkF m pc Ls st) := by
  obtain ⟨v, vm1, ⟨T', L', c', n'⟩, -, X', ⟨L, hQ, r1, r2, r3⟩, stp⟩ := X.specialBack hx (y := y) (bytes := bytes) (maxL := maxL) hy1 hown (mvT hZ w1) (mvT hZ w2) (mvT hZ w4) hy (backOf (W := W) (M []) hZ w4 w3 hf hl) (g := mkF m pc Ls st) rfl hsize (Steps.refl _) (a := a) (argsL := argsL) (rest := rest) hlen hstack (by show 2 * 0 + _ ≤ _; omega) hd (fun _ _ => ⟨rfl, eT, hc, hs⟩)
  dsimp only [Pt.U, Pt.locs, Pt.cells, Pt.slots] at X' r1 r2 r3 stp hQ
  subst r1 r2 r3
  exact own_tr _ _ stp (k v T' L X' hQ)
theorem own_callV (X : Stand p l e R s m args below meth c T locs cells slots) (hx : p.tables.exec = Jvm.exec) (hZ : Z.Warmed39 s.vm) {own C : String} {index : Nat} {y z : MethodName} {bytes : ByteArray} {maxL : Nat} {ret : Option FieldType} (hown : s.vm.findClass own = some m.cls)
    (w1 : (Cond.methodLink own index y).before a0 Z = true) (w2 : (Cond.declares y).before a0 Z = true) (hnf : NotFace s y) (w5 : (Cond.selects C y z).before a0 Z = true) (w6 : (Cond.instanceMethod z).before a0 Z = true) (w3 : (Cond.initialized z.cls).before a0 Z = true) (w4 : (Cond.code z bytes maxL ret).before a0 Z = true) (hy : y.cls ≠ "java/lang/invoke/MethodHandle" ∧ y.cls ≠ "java/lang/invoke/VarHandle")
    {rm : Room} (a : Addr) (argsL rest : List Value) {Qc : Option Value → Heap → List Loc → Prop} (E : Exa Z h a C) (M : own_Met l Z z bytes maxL ret rm (.ref a :: argsL).toArray h Qc) (W : Nat) (hf : rm.frames + 1 ≤ R.frames) (hl : W + (maxL + 11) + rm.locals ≤ R.locals) (eT : T.heap = h)
    {pc : Nat} {Ls : Array Slot} {st : List Value} (hsize : Ls.size = c.maxLocals) (hlen : ∀ sig, parseMethodDescriptor y.desc = some sig → argsL.length = sig.parameters.length) (hstack : st = argsL.reverse ++ .ref a :: rest) (hW : (rest.map fun v => v.category).sum ≤ W)
    (hd : decode c.code pc = .ok (.invokevirtual index, 3)) (hc : cells + rm.cells ≤ R.cells) (hs : slots + rm.slots ≤ R.slots)
    (k : ∀ v T' L, Stand p l e R s m args below meth c T' (locs ++ L) (cells + rm.cells) (slots + rm.slots) → Qc v T'.heap L → own_Out p e below s Q kc ks T' (mkF m (pc + 3) Ls (v.toList ++ rest))) : own_Out p e below s Q kc ks T (mkF m pc Ls st) := by
  obtain ⟨cq, kq, qa, qb, qc⟩ := isOf hZ eT E
  obtain ⟨v, vm1, ⟨T', L', c', n'⟩, -, X', ⟨L, hQ, r1, r2, r3⟩, stp⟩ := X.virtualBack hx (y := y) (z := z) hown (mvT hZ w1) (mvT hZ w2) hnf (mvT hZ w5) (mvT hZ w6) hy (backOf (W := W) (M []) hZ w4 w3 hf hl) qa qc (g := mkF m pc Ls st) rfl hsize (Steps.refl _) (argsL := argsL) (rest := rest) hlen hstack (by show 2 * 0 + _ ≤ _; omega) hd (fun _ _ => ⟨rfl, eT, hc, hs⟩)
  dsimp only [Pt.U, Pt.locs, Pt.cells, Pt.slots] at X' r1 r2 r3 stp hQ
  subst r1 r2 r3
  exact own_tr _ _ stp (k v T' L X' hQ)
theorem own_callI (X : Stand p l e R s m args below meth c T locs cells slots) (hx : p.tables.exec = Jvm.exec) (hZ : Z.Warmed39 s.vm) {own C : String} {index count : Nat} {xi y : MethodName} {bytes : ByteArray} {maxL : Nat} {ret : Option FieldType} (hown : s.vm.findClass own = some m.cls)
    (w1 : (Cond.methodLink own index xi).before args s = true) (w2 : (Cond.declares xi).before args s = true) (w7 : (Cond.interfaceMethod xi.cls xi.cls xi.name xi.desc).before args s = true) (w5 : (Cond.selects C xi y).before args s = true) (w6 : (Cond.instanceMethod y).before args s = true) (w8 : (Cond.publicMethod y).before args s = true) (w9 : (Cond.unhidden C xi.name xi.desc).before args s = true) (w10 : (Cond.castable C xi.cls).before args s = true) (w3 : (Cond.initialized y.cls).before a0 Z = true) (w4 : (Cond.code y bytes maxL ret).before a0 Z = true) (hy : xi.cls ≠ "java/lang/invoke/MethodHandle" ∧ xi.cls ≠ "java/lang/invoke/VarHandle")
    {rm : Room} (a : Addr) (argsL rest : List Value) {Qc : Option Value → Heap → List Loc → Prop} (E : Exa Z h a C) (M : own_Met l Z y bytes maxL ret rm (.ref a :: argsL).toArray h Qc) (W : Nat) (hf : rm.frames + 1 ≤ R.frames) (hl : W + (maxL + 11) + rm.locals ≤ R.locals) (eT : T.heap = h)
    {pc : Nat} {Ls : Array Slot} {st : List Value} (hsize : Ls.size = c.maxLocals) (hlen : ∀ sig, parseMethodDescriptor xi.desc = some sig → argsL.length = sig.parameters.length) (hstack : st = argsL.reverse ++ .ref a :: rest) (hW : (rest.map fun v => v.category).sum ≤ W)
    (hd : decode c.code pc = .ok (.invokeinterface index count, 5)) (hc : cells + rm.cells ≤ R.cells) (hs : slots + rm.slots ≤ R.slots)
    (k : ∀ v T' L, Stand p l e R s m args below meth c T' (locs ++ L) (cells + rm.cells) (slots + rm.slots) → Qc v T'.heap L → own_Out p e below s Q kc ks T' (mkF m (pc + 5) Ls (v.toList ++ rest))) : own_Out p e below s Q kc ks T (mkF m pc Ls st) := by
  obtain ⟨cq, kq, qa, qb, qc⟩ := isOf hZ eT E
  obtain ⟨v, vm1, ⟨T', L', c', n'⟩, -, X', ⟨L, hQ, r1, r2, r3⟩, stp⟩ := X.interfaceBack hx (xi := xi) (y := y) hown w1 w2 w7 w5 w6 w8 w9 w10 hy (backOf (W := W) (M []) hZ w4 w3 hf hl) qa qb qc (g := mkF m pc Ls st) rfl hsize (Steps.refl _) (argsL := argsL) (rest := rest) hlen hstack (by show 2 * 0 + _ ≤ _; omega) hd (fun _ _ => ⟨rfl, eT, hc, hs⟩)
  dsimp only [Pt.U, Pt.locs, Pt.cells, Pt.slots] at X' r1 r2 r3 stp hQ
  subst r1 r2 r3
  exact own_tr _ _ stp (k v T' L X' hQ)
theorem own_callP (X : Stand p l e R s m args below meth c T locs cells slots) (hx : p.tables.exec = Jvm.exec) (hZ : Z.Warmed39 s.vm) {own : String} {index : Nat} {y : MethodName} {bytes : ByteArray} {maxL : Nat} {ret : Option FieldType} (hown : s.vm.findClass own = some m.cls)
    (w1 : (Cond.methodLink own index y).before a0 Z = true) (w2 : (Cond.instanceMethod y).before a0 Z = true) (w5 : (Cond.selects y.cls y y).before a0 Z = true) (w6 : (Cond.privateMethod y).before a0 Z = true) (w3 : (Cond.initialized y.cls).before a0 Z = true) (w4 : (Cond.code y bytes maxL ret).before a0 Z = true) (hy : y.cls ≠ "java/lang/invoke/MethodHandle" ∧ y.cls ≠ "java/lang/invoke/VarHandle")
    {rm : Room} (a : Addr) (argsL rest : List Value) {C : String} {Qc : Option Value → Heap → List Loc → Prop} (E : Exa Z h a C) (M : own_Met l Z y bytes maxL ret rm (.ref a :: argsL).toArray h Qc) (W : Nat) (hf : rm.frames + 1 ≤ R.frames) (hl : W + (maxL + 11) + rm.locals ≤ R.locals) (eT : T.heap = h)
    {pc : Nat} {Ls : Array Slot} {st : List Value} (hsize : Ls.size = c.maxLocals) (hlen : ∀ sig, parseMethodDescriptor y.desc = some sig → argsL.length = sig.parameters.length) (hstack : st = argsL.reverse ++ .ref a :: rest) (hW : (rest.map fun v => v.category).sum ≤ W)
    (hd : decode c.code pc = .ok (.invokevirtual index, 3)) (hc : cells + rm.cells ≤ R.cells) (hs : slots + rm.slots ≤ R.slots)
    (k : ∀ v T' L, Stand p l e R s m args below meth c T' (locs ++ L) (cells + rm.cells) (slots + rm.slots) → Qc v T'.heap L → own_Out p e below s Q kc ks T' (mkF m (pc + 3) Ls (v.toList ++ rest))) : own_Out p e below s Q kc ks T (mkF m pc Ls st) := by
  obtain ⟨cq, qa, qb⟩ := E.cell
  obtain ⟨v, vm1, ⟨T', L', c', n'⟩, -, X', ⟨L, hQ, r1, r2, r3⟩, stp⟩ := X.privateBack hx (y := y) (bytes := bytes) (maxL := maxL) (ret := ret) hown (mvT hZ w1) (mvT hZ w2) (mvT hZ w5) (Cond.privateMethod_at (mvP hZ w6 (args := #[]))) (mvT hZ w4) hy (backOf (W := W) (M []) hZ w4 w3 hf hl) (g := mkF m pc Ls st) rfl hsize (Steps.refl _) (a := a) (by rw [eT]; exact qa) qb (argsL := argsL) (rest := rest) hlen hstack (by show 2 * 0 + _ ≤ _; omega) hd (fun _ _ => ⟨rfl, eT, hc, hs⟩)
  dsimp only [Pt.U, Pt.locs, Pt.cells, Pt.slots] at X' r1 r2 r3 stp hQ
  subst r1 r2 r3
  exact own_tr _ _ stp (k v T' L X' hQ)
/-- an array by its values: n places, place i holds f i -/
def own_A (Z : State) (h : Heap) (a : Addr) (k : ClassId) (ty : FieldType) (n : Nat) (f : Nat → Value) : Prop := ∃ cl : Cell, Arr Z h a cl ty ∧ cl.cls = k ∧ cl.slots.size = n ∧ n < 2 ^ 31 ∧ ∀ i, i < n → cl.slots[i]? = some (f i)
variable {a b : Addr} {k : ClassId} {ty : FieldType} {n : Nat} {f f' : Nat → Value} {sl : Nat} {v : Value} {ws : List Addr}
theorem own_A.lt (F : own_A Z h a k ty n f) : a < h.size := by obtain ⟨c, A, -⟩ := F; exact A.lt
theorem own_A.ext (F : own_A Z h a k ty n f) (E : Ext h h') : own_A Z h' a k ty n f := by obtain ⟨c, A, r⟩ := F; exact ⟨c, A.ext E, r⟩
theorem own_A.other (F : own_A Z h b k ty n f) (W : Wr h h' a sl v) (q : b ≠ a) : own_A Z h' b k ty n f := by obtain ⟨c, A, r⟩ := F; exact ⟨c, A.other W q, r⟩
theorem own_A.keep (F : own_A Z h a k ty n f) (K : Keep h h' ws) (q : a ∉ ws) : own_A Z h' a k ty n f := by obtain ⟨c, A, r⟩ := F; exact ⟨c, ⟨K.2.1 a c A.1 q, A.2⟩, r⟩
theorem own_A.cong (F : own_A Z h a k ty n f) (q : ∀ i, i < n → f i = f' i) : own_A Z h a k ty n f' := by obtain ⟨c, A, r1, r2, r3, r4⟩ := F; exact ⟨c, A, r1, r2, r3, fun i hi => by rw [r4 i hi, q i hi]⟩
theorem own_A.new {z : Int32} (A : Arr Z h a (newA k ty z) ty) (q : ¬ z < 0) : own_A Z h a k ty z.toNatClampNeg (fun _ => defaultValue ty) := ⟨_, A, rfl, sz_new _ _ _, (back32 q).2, fun i hi => by simp [newA, hi]⟩
theorem own_A.newL {z : Int32} (A : Arr Z h a (newA k ty z) ty) (q : ¬ z < 0) (n : Nat) (hn : z.toNatClampNeg = n) (d : Value) (hd : defaultValue ty = d) : own_A Z h a k ty n (fun i => (List.replicate n d).getD i d) := by
  subst hn hd
  refine (own_A.new A q).cong fun i hi => ?_
  simp [List.getD_eq_getElem?_getD, List.getElem?_replicate, hi]
theorem own_jn {j : Int32} {i : Nat} (q : j.toInt = (i : Int)) : j.toNatClampNeg = i := by simp only [Int32.toNatClampNeg]; omega
theorem own_in {j : Int32} {i n : Nat} {cl : Cell} (q : j.toInt = (i : Int)) (hi : i < n) (S : cl.slots.size = n) : ¬ (j < 0 ∨ cl.slots.size ≤ j.toNatClampNeg) := by
  rw [own_jn q, Int32.lt_iff_toInt_lt, q, S]; have : (0 : Int32).toInt = 0 := rfl; omega
theorem own_A.set (F : own_A Z h a k ty n f) {i : Nat} (hi : i < n) (W : Wr h h' a i v) : own_A Z h' a k ty n (fun x => if x = i then v else f x) := by
  obtain ⟨cl, A, r1, r2, r3, r4⟩ := F
  refine ⟨_, A.same W, r1, by rw [sz_set]; exact r2, r3, fun x hx => ?_⟩
  by_cases q : x = i
  · subst q; simp [Cell.setSlot, r2, hi]
  · show (cl.slots.setIfInBounds i v)[x]? = _
    rw [Array.getElem?_setIfInBounds_ne (Ne.symm q)]; simp only [q, if_false]; exact r4 x hx
theorem own_A.setL {L : List Value} {d : Value} (F : own_A Z h a k ty n (fun x => L.getD x d)) {i : Nat} (hi : i < n) (hL : i < L.length) (W : Wr h h' a i v) : own_A Z h' a k ty n (fun x => (L.set i v).getD x d) := by
  refine (F.set hi W).cong fun x hx => ?_
  by_cases q : x = i
  · subst q; simp [List.getD_eq_getElem?_getD, List.getElem?_set, hL]
  · simp [List.getD_eq_getElem?_getD, List.getElem?_set, q, Ne.symm q]
theorem own_A.setI {b : Nat → Int32} {x : Int32} (F : own_A Z h a k ty n (fun y => .int (b y))) {i : Nat} (hi : i < n) (W : Wr h h' a i (.int x)) : own_A Z h' a k ty n (fun y => .int (if y = i then x else b y)) := by
  refine (F.set hi W).cong fun y hy => ?_
  by_cases q : y = i <;> simp [q]
theorem own_A.setLI {L : List Int32} {x : Int32} (F : own_A Z h a k ty n (fun y => .int (L.getD y 0))) {i : Nat} (hi : i < n) (hL : i < L.length) (W : Wr h h' a i (.int x)) : own_A Z h' a k ty n (fun y => .int ((L.set i x).getD y 0)) := by
  refine (F.setI hi W).cong fun y hy => ?_
  by_cases q : y = i
  · subst q; simp [List.getD_eq_getElem?_getD, List.getElem?_set, hL]
  · simp [List.getD_eq_getElem?_getD, List.getElem?_set, q, Ne.symm q]
theorem own_A.snocI {L : List Int32} {x : Int32} (F : own_A Z h a k ty n (fun y => .int (L.getD y 0))) {i : Nat} (hi : i < n) (hL : L.length = i) (W : Wr h h' a i (.int x)) : own_A Z h' a k ty n (fun y => .int ((L ++ [x]).getD y 0)) := by
  refine (F.setI hi W).cong fun y hy => ?_
  by_cases q : y = i
  · subst q; subst hL; simp [List.getD_eq_getElem?_getD]
  · by_cases r : y < L.length
    · simp [List.getD_eq_getElem?_getD, q, List.getElem?_append_left r]
    · have h1 : L[y]? = none := List.getElem?_eq_none (by omega)
      have h2 : (L ++ [x])[y]? = none := List.getElem?_eq_none (by simp; omega)
      simp [List.getD_eq_getElem?_getD, q, h1, h2]
theorem own_A.newI {z : Int32} (A : Arr Z h a (newA k ty z) ty) (q : ¬ z < 0) (n : Nat) (hn : z.toNatClampNeg = n) (hd : defaultValue ty = .int 0) : own_A Z h a k ty n (fun _ => .int 0) := by
  subst hn; rw [← hd]; exact own_A.new A q
theorem own_A.newLI {z : Int32} (A : Arr Z h a (newA k ty z) ty) (q : ¬ z < 0) (n : Nat) (hn : z.toNatClampNeg = n) (hd : defaultValue ty = .int 0) : own_A Z h a k ty n (fun y => .int ((List.replicate n (0 : Int32)).getD y 0)) := by
  refine (own_A.newI A q n hn hd).cong fun i hi => ?_
  simp [List.getD_eq_getElem?_getD, List.getElem?_replicate, hi]
theorem own_stI (X : Stand p l e R s m args below meth c T locs cells slots) (hx : p.tables.exec = Jvm.exec) (hZ : Z.Warmed39 s.vm) (eT : T.heap = h) (F : own_A Z h a k .int n f) {j x : Int32} (i : Nat) (q : j.toInt = (i : Int)) (hi : i < n) {pc : Nat} {Ls : Array Slot} {rest : List Value} (hd : decode c.code pc = .ok (.iastore, 1)) :
    ∃ T' h', Stand p l e R s m args below meth c T' (locs ++ [⟨a, i⟩]) cells slots ∧ T'.heap = h' ∧ Wr h h' a i (.int x) ∧ ∀ t, Steps p.tables e below (T'.setTop (mkF m (pc + 1) Ls rest)) t → Steps p.tables e below (T.setTop (mkF m pc Ls (.int x :: .int j :: .ref a :: rest))) t := by
  obtain ⟨cl, A, r1, r2, r3, r4⟩ := F
  have := stI X hx hZ eT A (j := j) (x := x) (own_in q hi r2) (g := mkF m pc Ls (.int x :: .int j :: .ref a :: rest)) rfl rfl hd
  rw [own_jn q] at this; exact this
theorem own_stB (X : Stand p l e R s m args below meth c T locs cells slots) (hx : p.tables.exec = Jvm.exec) (hZ : Z.Warmed39 s.vm) (eT : T.heap = h) (F : own_A Z h a k .byte n f) {j x : Int32} (x' : Int32) (hx' : nar .byte x = x') (i : Nat) (q : j.toInt = (i : Int)) (hi : i < n) {pc : Nat} {Ls : Array Slot} {rest : List Value} (hd : decode c.code pc = .ok (.bastore, 1)) :
    ∃ T' h', Stand p l e R s m args below meth c T' (locs ++ [⟨a, i⟩]) cells slots ∧ T'.heap = h' ∧ Wr h h' a i (.int x') ∧ ∀ t, Steps p.tables e below (T'.setTop (mkF m (pc + 1) Ls rest)) t → Steps p.tables e below (T.setTop (mkF m pc Ls (.int x :: .int j :: .ref a :: rest))) t := by
  obtain ⟨cl, A, r1, r2, r3, r4⟩ := F
  have := stB X hx hZ eT A (j := j) (x := x) (own_in q hi r2) (g := mkF m pc Ls (.int x :: .int j :: .ref a :: rest)) rfl rfl hd
  rw [own_jn q] at this; subst hx'; exact this
theorem own_stC (X : Stand p l e R s m args below meth c T locs cells slots) (hx : p.tables.exec = Jvm.exec) (hZ : Z.Warmed39 s.vm) (eT : T.heap = h) (F : own_A Z h a k .char n f) {j x : Int32} (x' : Int32) (hx' : nar .char x = x') (i : Nat) (q : j.toInt = (i : Int)) (hi : i < n) {pc : Nat} {Ls : Array Slot} {rest : List Value} (hd : decode c.code pc = .ok (.castore, 1)) :
    ∃ T' h', Stand p l e R s m args below meth c T' (locs ++ [⟨a, i⟩]) cells slots ∧ T'.heap = h' ∧ Wr h h' a i (.int x') ∧ ∀ t, Steps p.tables e below (T'.setTop (mkF m (pc + 1) Ls rest)) t → Steps p.tables e below (T.setTop (mkF m pc Ls (.int x :: .int j :: .ref a :: rest))) t := by
  obtain ⟨cl, A, r1, r2, r3, r4⟩ := F
  have := stC X hx hZ eT A (j := j) (x := x) (own_in q hi r2) (g := mkF m pc Ls (.int x :: .int j :: .ref a :: rest)) rfl rfl hd
  rw [own_jn q] at this; subst hx'; exact this
theorem own_stR (X : Stand p l e R s m args below meth c T locs cells slots) (hx : p.tables.exec = Jvm.exec) (hZ : Z.Warmed39 s.vm) (eT : T.heap = h) {C : String} (F : own_A Z h a k (.object C) n f) {j : Int32} {v : Value} (O : Ovr Z k C) (I : v = .null ∨ ∃ y, v = .ref y ∧ Ins Z h y C true) (i : Nat) (q : j.toInt = (i : Int)) (hi : i < n) {pc : Nat} {Ls : Array Slot} {rest : List Value} (hd : decode c.code pc = .ok (.aastore, 1)) :
    ∃ T' h', Stand p l e R s m args below meth c T' (locs ++ [⟨a, i⟩]) cells slots ∧ T'.heap = h' ∧ Wr h h' a i v ∧ ∀ t, Steps p.tables e below (T'.setTop (mkF m (pc + 1) Ls rest)) t → Steps p.tables e below (T.setTop (mkF m pc Ls (v :: .int j :: .ref a :: rest))) t := by
  obtain ⟨cl, A, r1, r2, r3, r4⟩ := F
  have S : Sto Z h a v := by
    rcases I with rfl | ⟨y, rfl, I⟩
    · exact Or.inl rfl
    · exact Sto.ofV A r1 O I
  have := stR X hx hZ eT A (j := j) (own_in q hi r2) rfl S (g := mkF m pc Ls (v :: .int j :: .ref a :: rest)) rfl rfl hd
  rw [own_jn q] at this; exact this
theorem own_stRA (X : Stand p l e R s m args below meth c T locs cells slots) (hx : p.tables.exec = Jvm.exec) (hZ : Z.Warmed39 s.vm) (eT : T.heap = h) {C : String} {t0 : FieldType} (F : own_A Z h a k (.array t0) n f) {j : Int32} {v : Value} (O : OvrA Z k t0 C) (I : v = .null ∨ ∃ y, v = .ref y ∧ Ins Z h y C true) (i : Nat) (q : j.toInt = (i : Int)) (hi : i < n) {pc : Nat} {Ls : Array Slot} {rest : List Value} (hd : decode c.code pc = .ok (.aastore, 1)) :
    ∃ T' h', Stand p l e R s m args below meth c T' (locs ++ [⟨a, i⟩]) cells slots ∧ T'.heap = h' ∧ Wr h h' a i v ∧ ∀ t, Steps p.tables e below (T'.setTop (mkF m (pc + 1) Ls rest)) t → Steps p.tables e below (T.setTop (mkF m pc Ls (v :: .int j :: .ref a :: rest))) t := by
  obtain ⟨cl, A, r1, r2, r3, r4⟩ := F
  have S : Sto Z h a v := by
    rcases I with rfl | ⟨y, rfl, I⟩
    · exact Or.inl rfl
    · exact Sto.ofVA A r1 O I
  have := stR X hx hZ eT A (j := j) (own_in q hi r2) rfl S (g := mkF m pc Ls (v :: .int j :: .ref a :: rest)) rfl rfl hd
  rw [own_jn q] at this; exact this
theorem own_ldI (X : Stand p l e R s m args below meth c T locs cells slots) (hx : p.tables.exec = Jvm.exec) (hZ : Z.Warmed39 s.vm) (eT : T.heap = h) (F : own_A Z h a k .int n f) {j : Int32} (i : Nat) (q : j.toInt = (i : Int)) (hi : i < n) {pc : Nat} {Ls : Array Slot} {rest : List Value} (hd : decode c.code pc = .ok (.iaload, 1)) :
    ∀ t, Steps p.tables e below (T.setTop (mkF m (pc + 1) Ls (f i :: rest))) t → Steps p.tables e below (T.setTop (mkF m pc Ls (.int j :: .ref a :: rest))) t := fun t kt => by
  obtain ⟨cl, A, r1, r2, r3, r4⟩ := F
  exact X.iaload hx (j := j) (v := f i) (by rw [eT]; exact A.1) (State.isArrayOf_alike hZ.alike A.2.1) A.2.2 (own_in q hi r2) (by rw [own_jn q]; exact r4 i hi) (g := mkF m pc Ls (.int j :: .ref a :: rest)) rfl rfl hd _ kt
theorem own_ldB (X : Stand p l e R s m args below meth c T locs cells slots) (hx : p.tables.exec = Jvm.exec) (hZ : Z.Warmed39 s.vm) (eT : T.heap = h) (F : own_A Z h a k .byte n f) {j : Int32} (i : Nat) (q : j.toInt = (i : Int)) (hi : i < n) {pc : Nat} {Ls : Array Slot} {rest : List Value} (hd : decode c.code pc = .ok (.baload, 1)) :
    ∀ t, Steps p.tables e below (T.setTop (mkF m (pc + 1) Ls (f i :: rest))) t → Steps p.tables e below (T.setTop (mkF m pc Ls (.int j :: .ref a :: rest))) t := fun t kt => by
  obtain ⟨cl, A, r1, r2, r3, r4⟩ := F
  exact X.baloadBytes hx (j := j) (v := f i) (by rw [eT]; exact A.1) (State.isArrayOf_alike hZ.alike A.2.1) A.2.2 (own_in q hi r2) (by rw [own_jn q]; exact r4 i hi) (g := mkF m pc Ls (.int j :: .ref a :: rest)) rfl rfl hd _ kt
theorem own_ldC (X : Stand p l e R s m args below meth c T locs cells slots) (hx : p.tables.exec = Jvm.exec) (hZ : Z.Warmed39 s.vm) (eT : T.heap = h) (F : own_A Z h a k .char n f) {j : Int32} (i : Nat) (q : j.toInt = (i : Int)) (hi : i < n) {pc : Nat} {Ls : Array Slot} {rest : List Value} (hd : decode c.code pc = .ok (.caload, 1)) :
    ∀ t, Steps p.tables e below (T.setTop (mkF m (pc + 1) Ls (f i :: rest))) t → Steps p.tables e below (T.setTop (mkF m pc Ls (.int j :: .ref a :: rest))) t := fun t kt => by
  obtain ⟨cl, A, r1, r2, r3, r4⟩ := F
  exact X.caload hx (j := j) (v := f i) (by rw [eT]; exact A.1) (State.isArrayOf_alike hZ.alike A.2.1) A.2.2 (own_in q hi r2) (by rw [own_jn q]; exact r4 i hi) (g := mkF m pc Ls (.int j :: .ref a :: rest)) rfl rfl hd _ kt
theorem own_ldR (X : Stand p l e R s m args below meth c T locs cells slots) (hx : p.tables.exec = Jvm.exec) (hZ : Z.Warmed39 s.vm) (eT : T.heap = h) (F : own_A Z h a k ty n f) (hty : ty.isReference = true) {j : Int32} (i : Nat) (q : j.toInt = (i : Int)) (hi : i < n) {pc : Nat} {Ls : Array Slot} {rest : List Value} (hd : decode c.code pc = .ok (.aaload, 1)) :
    ∀ t, Steps p.tables e below (T.setTop (mkF m (pc + 1) Ls (f i :: rest))) t → Steps p.tables e below (T.setTop (mkF m pc Ls (.int j :: .ref a :: rest))) t := fun t kt => by
  obtain ⟨cl, A, r1, r2, r3, r4⟩ := F
  exact X.aaload hx (j := j) (v := f i) (by rw [eT]; exact A.1) (State.isArrayOf_alike hZ.alike A.2.1) hty A.2.2 (own_in q hi r2) (by rw [own_jn q]; exact r4 i hi) (g := mkF m pc Ls (.int j :: .ref a :: rest)) rfl rfl hd _ kt
theorem own_len (X : Stand p l e R s m args below meth c T locs cells slots) (hx : p.tables.exec = Jvm.exec) (hZ : Z.Warmed39 s.vm) (eT : T.heap = h) (F : own_A Z h a k ty n f) {pc : Nat} {Ls : Array Slot} {rest : List Value} (hd : decode c.code pc = .ok (.arraylength, 1)) (z : Int32) (hz : z.toInt = (n : Int)) :
    ∀ t, Steps p.tables e below (T.setTop (mkF m (pc + 1) Ls (.int z :: rest))) t → Steps p.tables e below (T.setTop (mkF m pc Ls (.ref a :: rest))) t := fun t kt => by
  obtain ⟨cl, A, r1, r2, r3, r4⟩ := F
  have q : cl.slots.size.toInt32 = z := by
    apply Int32.toInt_inj.mp; rw [r2, hz]; exact len_toInt r3
  exact X.arraylength hx (by rw [eT]; exact A.1) (State.isArrayOf_alike hZ.alike A.2.1) (g := mkF m pc Ls (.ref a :: rest)) rfl rfl hd _ (by rw [q]; exact kt)
theorem own_cat {w : Value} (h : w.isRef = true) : w.category = 1 := by cases w <;> first | rfl | cases h
theorem own_nb (x : Int32) : nar .byte x.toInt8.toInt32 = x.toInt8.toInt32 := by simp [nar]
theorem own_nc (x : Int32) : nar .char x.toUInt32.toUInt16.toUInt32.toInt32 = x.toUInt32.toUInt16.toUInt32.toInt32 := by
  have := Jvm.Free.XT.narrow_c x
  simpa [nar, narrow] using this
theorem own_nz {z : Int32} (q : z = 0 ∨ z = 1) : nar .boolean z = z := by rcases q with rfl | rfl <;> rfl
theorem own_bt {P : Prop} [Decidable P] (q : P) : ¬ ((if P then (1 : Int32) else 0) = 0) := by simp [q]
theorem own_bf {P : Prop} [Decidable P] (q : ¬ P) : (if P then (1 : Int32) else 0) = 0 := by simp [q]
theorem own_nt {P : Prop} [Decidable P] (q : P) : (if P then (0 : Int32) else 1) = 0 := by simp [q]
theorem own_nf {P : Prop} [Decidable P] (q : ¬ P) : ¬ ((if P then (0 : Int32) else 1) = 0) := by simp [q]
theorem own_lrem {target : State} (X : Stand p l e R s m args below meth c T locs cells slots) (hx : p.tables.exec = Jvm.exec) (hg : g.method = m) {x y : Int64} {rest : List Value} (hd : decode c.code g.pc = .ok (.lrem, 1)) (hs : g.stack = .long y :: .long x :: rest) (hy : y ≠ 0)
    (hr : Steps p.tables e below (T.setTop { g with pc := g.pc + 1, stack := .long (x % y) :: rest }) target) : Steps p.tables e below (T.setTop g) target := XS.lrem X.here hx hg hd hs hy (by rw [lrem_mod]; exact hr)
end OwnKit
section OwnW
variable {p : Program} {l : Launch} {e : Env} {R : Room} {s : State} {m : MethodId} {args : Array Value} {below : List Frame} {meth : Method} {c : Code} {T : State} {locs : List Loc} {cells slots kc ks : Nat} {Z : State} {a0 : Array Value} {h h' h0 : Heap} {Q : Option Value → Heap → List Loc → Prop} {g : JFrame}
/-- own_Out with the wide frame: a String constant may come to be interned -/
def own_OutW (p : Program) (e : Env) (below : List Frame) (s : State) (Q : Option Value → Heap → List Loc → Prop) (kc ks : Nat) (T : State) (g : JFrame) : Prop :=
  ∃ U o, Steps p.tables e below (T.setTop g) U ∧ U.status = .running ∧ Ended U below o ∧ ∃ v L, o = .returned v ∧ Q v U.heap L ∧ ReturnedEndW s o U L kc ks
theorem own_stW (T' : State) (g' : JFrame) (st : ∀ t, Steps p.tables e below (T'.setTop g') t → Steps p.tables e below (T.setTop g) t) (k : own_OutW p e below s Q kc ks T' g') : own_OutW p e below s Q kc ks T g := by
  obtain ⟨U, o, h1, h2⟩ := k; exact ⟨U, o, st _ h1, h2⟩
theorem own_OutW.of (k : own_Out p e below s Q kc ks T g) : own_OutW p e below s Q kc ks T g := by
  obtain ⟨U, o, h1, h2, h3, v, L, h4, h5, h6⟩ := k
  exact ⟨U, o, h1, h2, h3, v, L, h4, h5, ReturnedEndW.of_narrow h6.1 h6.2.1 h6.2.2⟩
theorem own_OutW.since {vm1 : Vm} {k1 : Nat} (hS : s.Since vm1 k1) (k : own_Out p e below (s.setVm vm1) (fun v h L => Q v h L ∧ k1 ≤ h.size) kc ks T g) : own_OutW p e below s Q kc ks T g := by
  obtain ⟨U, o, h1, h2, h3, v, L, h4, ⟨h5, h5'⟩, h6⟩ := k
  obtain ⟨a, b, c⟩ := hS.ended h6.2.1 h5' h6.2.2
  exact ⟨U, o, h1, h2, h3, v, L, h4, h5, h6.1, a, b, c⟩
def own_MetW (l : Launch) (Z : State) (y : MethodName) (bytes : ByteArray) (maxL : Nat) (ret : Option FieldType) (rm : Room) (as' : Array Value) (h0 : Heap) (Q : Option Value → Heap → List Loc → Prop) : Prop :=
  ∀ ws : List Jvm.Cond, MetFree l y (head1 (Jvm.Cond.code y bytes maxL ret :: ws) rm) (fun a U => a = as' ∧ Z.WarmedH U.vm ∧ U.heap = h0) (fun _ _ _ _ _ => True) (fun _ U o U' => ∃ v L, o = .returned v ∧ Q v U'.heap L ∧ ReturnedEndW U o U' L rm.cells rm.slots)
theorem own_bodyW {y : MethodName} {bytes : ByteArray} {maxL : Nat} {ret : Option FieldType} {rm : Room} {as' : Array Value} (Ls : Array Slot) (hp : plainFor y = true) (hef : ∀ m, entryFrame m as' maxL = mkF m 0 Ls [])
    (hbody : ∀ (p : Program) (e : Env) (s : State) (m : MethodId) (below : List Frame) (meth : Method) (c : Code) (s₁ : State), Stand p l e rm s m as' below meth c s₁ [] 0 0 → p.tables.exec = Jvm.exec → c.code = bytes → c.maxLocals = maxL → meth.sig.returnType = ret → meth.locks = false → Z.WarmedH s.vm → s.vm.findClass y.cls = some m.cls → meth.name = y.name → s₁.heap = h0 → s.heap = h0 →
      own_OutW p e below s Q rm.cells rm.slots s₁ (mkF m 0 Ls [])) : own_MetW l Z y bytes maxL ret rm as' h0 Q := by
  intro ws
  refine MetFree.of_bodySF hp hisR ?_
  intro p e s m args below meth c s₁ Bd hml0 hP hK
  obtain ⟨rfl, hZ, hh⟩ := hP
  have X0 : Stand p l e rm s m args below meth c s₁ [] 0 0 := Stand.of_body Bd
  have e0 : s₁.heap = h0 := by rw [← hh, Bd.state]; rfl
  obtain ⟨U, o, h1, h2⟩ := hbody p e s m below meth c s₁ X0 Bd.exec Bd.bytes hml0 Bd.returns Bd.notSynchronized hZ (findClass_of_methodNamed Bd.named) (name_of_methodNamed Bd.named Bd.method).1 e0 hh
  exact ⟨U, o, castTop (hef m) h1, h2⟩
theorem own_backW {y : MethodName} {bytes : ByteArray} {maxL : Nat} {ret : Option FieldType} {rm : Room} {len W : Nat} {as' : Array Value} {Qc : Option Value → Heap → List Loc → Prop} (hM : own_MetW l Z y bytes maxL ret rm as' h Qc)
    (hZH : Z.WarmedH s.vm) (wc : (Cond.code y bytes maxL ret).before a0 Z = true) (wz : (Cond.initialized y.cls).before a0 Z = true) (hf : rm.frames + 1 ≤ R.frames) (hl : W + (maxL + 11) + rm.locals ≤ R.locals) :
    BackS l R p e below s args y len W (fun A a => a = as' ∧ A.U.heap = h ∧ A.cells + rm.cells ≤ R.cells ∧ A.slots + rm.slots ≤ R.slots)
      (fun A _ v B => ∃ L, Qc v B.U.heap L ∧ B.locs = A.locs ++ L ∧ B.cells = A.cells + rm.cells ∧ B.slots = A.slots + rm.slots) :=
  BackS.of_freeW (bytes := bytes) (maxL := maxL) (ret := ret) (E := fun _ _ o t L k n => k = rm.cells ∧ n = rm.slots ∧ ∃ v, o = .returned v ∧ Qc v t.heap L) (hM []) hf hl
    (fun m meth c A a Y hp => have hU : Z.Warmed39 A.U.vm := wtrans hZH.wide Y.warmed
      ⟨by show (Cond.and _ .tt).before a A.U = true; rw [Cond.before_and, mv hU wc]; rfl, mv hU wc, mv hU wz, hp.2.2.1, hp.2.2.2⟩)
    (fun m meth c A a g mk Y hp => ⟨hp.1, State.WarmedH.trans hZH Y.warmed, hp.2.1⟩) (fun _ _ _ _ _ _ _ _ _ => trivial)
    (fun _ _ _ _ ⟨v, L, h1, h2, h3⟩ => ⟨L, _, _, h3, rfl, rfl, v, h1, h2⟩)
    (fun m meth c A a g mk v t L k n Y hp _ _ ⟨e1, e2, v', e3, e4⟩ => by cases e3; subst e1 e2; exact ⟨L, e4, rfl, rfl, rfl⟩)
theorem own_callCW (X : Stand p l e R s m args below meth c T locs cells slots) (hx : p.tables.exec = Jvm.exec) (hZH : Z.WarmedH s.vm) {own : String} {index : Nat} {y : MethodName} {bytes : ByteArray} {maxL : Nat} (hy1 : y.name = "<init>") (hown : s.vm.findClass own = some m.cls)
    (w1 : (Cond.methodLink own index y).before a0 Z = true) (w2 : (Cond.instanceMethod y).before a0 Z = true) (w3 : (Cond.initialized y.cls).before a0 Z = true) (w4 : (Cond.code y bytes maxL none).before a0 Z = true) (hy : y.cls ≠ "java/lang/invoke/MethodHandle" ∧ y.cls ≠ "java/lang/invoke/VarHandle")
    {rm : Room} (a : Addr) (argsL rest : List Value) {Qc : Option Value → Heap → List Loc → Prop} (M : own_MetW l Z y bytes maxL none rm (.ref a :: argsL).toArray h Qc) (W : Nat) (hf : rm.frames + 1 ≤ R.frames) (hl : W + (maxL + 11) + rm.locals ≤ R.locals) (eT : T.heap = h)
    {pc : Nat} {Ls : Array Slot} {st : List Value} (hsize : Ls.size = c.maxLocals) (hlen : ∀ sig, parseMethodDescriptor y.desc = some sig → argsL.length = sig.parameters.length) (hstack : st = argsL.reverse ++ .ref a :: rest) (hW : (rest.map fun v => v.category).sum ≤ W)
    (hd : decode c.code pc = .ok (.invokespecial index, 3)) (hc : cells + rm.cells ≤ R.cells) (hs : slots + rm.slots ≤ R.slots)
    (k : ∀ v T' L, Stand p l e R (s.setVm T'.vm) m args below meth c T' (locs ++ L) (cells + rm.cells) (slots + rm.slots) → s.Since T'.vm T'.heap.size → Z.Warmed39 (s.setVm T'.vm).vm → (s.setVm T'.vm).vm.findClass own = some m.cls → Qc v T'.heap L → own_Out p e below (s.setVm T'.vm) (fun v h L => Q v h L ∧ T'.heap.size ≤ h.size) kc ks T' (mkF m (pc + 3) Ls (v.toList ++ rest))) : own_OutW p e below s Q kc ks T (mkF m pc Ls st) := by
  have hZ := hZH.wide
  obtain ⟨v, vm1, ⟨T', L', c', n'⟩, -, X', hS, -, ⟨L, hQ, r1, r2, r3⟩, stp⟩ := X.specialBackS hx (y := y) (bytes := bytes) (maxL := maxL) hy1 hown (mvT hZ w1) (mvT hZ w2) (mvT hZ w4) hy (own_backW (W := W) M hZH w4 w3 hf hl) (g := mkF m pc Ls st) rfl hsize (Steps.refl _) (a := a) (argsL := argsL) (rest := rest) hlen hstack (by show 2 * 0 + _ ≤ _; omega) hd (fun _ _ => ⟨rfl, eT, hc, hs⟩)
  dsimp only [Pt.U, Pt.locs, Pt.cells, Pt.slots] at X' r1 r2 r3 stp hQ hS
  subst r1 r2 r3
  obtain ⟨U, o, h1, h2⟩ := own_OutW.since hS (k v T' L X' hS (State.Warmed39.trans (t := s) hZ hS.1) (by rw [show (s.setVm T'.vm).vm = T'.vm from rfl, hS.1.alike.findClass]; exact hown) hQ)
  exact ⟨U, o, stp.trans h1, h2⟩
theorem own_ret0W (X : Stand p l e R s m args below meth c T locs cells slots) (hx : p.tables.exec = Jvm.exec) (hlk : meth.locks = false) {pc : Nat} {Ls : Array Slot} (hret : meth.sig.returnType = none)
    (hd : decode c.code pc = .ok (.return_, 1)) (hc : cells ≤ kc) (hs : slots ≤ ks) (hq : Q none T.heap locs) : own_OutW p e below s Q kc ks T (mkF m pc Ls []) := .of (own_ret0 X hx hlk hret hd hc hs hq)
theorem own_fldZ {U : State} {a : Addr} {C n d : String} {v : Value} (al : U.vm.Alike Z.vm) (F : Fld U h a C n d v) : Fld Z h a C n d v := by
  obtain ⟨cell, cf, k, i, f, h1, h2, h3, h4, h5, h6, h7⟩ := F
  obtain ⟨c1, k1, i1, f1, g1⟩ := Jvm.Free.SBG.found_asg (U' := Z) al ⟨cf, k, i, h2, h6⟩
  exact ⟨cell, c1, k1, i1, f, h1, f1, h3, h4, h5, g1, h7⟩
/-- what the constants held at Z say of a later state -/
theorem own_held {Z s : State} {own text : String} {j : Nat} (hZH : Z.WarmedH s.vm) (E : Ext Z.heap s.heap) (w : (Cond.stringLink own j text).before a0 Z = true) (H : ConstHeld Z own j) : ConstHeld s own j := by
  intro c k' cf i units a hc' hk' hcf' hp hu hor
  have hal := hZH.alike
  have hc : Z.vm.findClass own = some c := by rw [← hal.findClass]; exact hc'
  obtain ⟨k, cf0, i0, units0, hk, hcf, hp0, hu0, hnm, -, -⟩ := Cond.stringLink_spec hc w
  obtain ⟨k'', hk'', hke, -, ee, -⟩ := hZH.2.2 c k hk
  cases hk'.symm.trans hk''
  have hcfk : k'.cf = k.cf := by rw [hke]
  cases (hcfk ▸ hcf').symm.trans hcf
  cases hp.symm.trans hp0
  cases hu.symm.trans hu0
  have key : D0.Says Z a units.toList := by
    rcases ee j with e0 | ⟨hop, r, e1, hr⟩
    · rcases hor with g0 | ⟨g0, g1⟩
      · exact H c k cf i units a hc hk hcf hp hu (Or.inl (e0 ▸ g0))
      · exact H c k cf i units a hc hk hcf hp hu (Or.inr ⟨e0 ▸ g0, by rw [← hZH.interned_eq]; exact g1⟩)
    · exfalso
      cases r <;> simp [State.rightAt, hk, hcf, hnm] at hr
  exact key.moved hal (fun b c hb => E.2 b c hb)
theorem own_ldcE (X : Stand p l e R s m args below meth c T [] cells slots) (hx : p.tables.exec = Jvm.exec) (hZ : Z.Warmed39 s.vm) {own text : String} {index : Nat} (hown : s.vm.findClass own = some m.cls) (w : (Cond.stringLink own index text).before a0 Z = true) (wS : ∀ a ∈ Bundle.stringAtoms, a.before a0 Z = true)
    (hheld : ConstHeld s own index) (eT : T.heap = h) {pc : Nat} {Ls : Array Slot} {st : List Value} (hd : decode c.code pc = .ok (.ldc index, 2)) {n : Nat} (hn : 4 * text.toList.length ≤ n) (hbig : n ≤ 536870912) (hc : cells + 2 ≤ R.cells) (hl : slots + (n + 4) ≤ R.slots) :
    ∃ (a d : Addr) (cc : Int32) (T' : State) (h' : Heap), Stand p l e R (s.setVm T'.vm) m args below meth c T' [] (cells + 2) (slots + (n + 4)) ∧ T'.heap = h' ∧ Ext h h' ∧ s.Since T'.vm T'.heap.size ∧ Z.Warmed39 (s.setVm T'.vm).vm ∧ (s.setVm T'.vm).vm.findClass own = some m.cls ∧
      (∃ k₂, (s.setVm T'.vm).vm.classes[m.cls]? = some k₂ ∧ k₂.resolved[index]? = some (some (.string a))) ∧ Fld Z h' a "java/lang/String" "value" "[B" (.ref d) ∧ Fld Z h' a "java/lang/String" "coder" "B" (.int cc) ∧ (cc = 0 ∨ cc = 1) ∧
      ∀ t, Steps p.tables e below (T'.setTop (mkF m (pc + 2) Ls (.ref a :: st))) t → Steps p.tables e below (T.setTop (mkF m pc Ls st)) t := by
  obtain ⟨a, T', X', hS', hk, hb, -, ⟨units, -, d, cc, cell, bytes, f1, f2, f3, -⟩, stp⟩ := X.ldcStringColdSays hx (own := own) hown (mvS (s := s) hZ w) (fun d hd => by
    have q := wS d hd
    simp only [Bundle.stringAtoms, List.mem_cons, List.not_mem_nil, or_false] at hd
    rcases hd with rfl | rfl | rfl | rfl | rfl | rfl | rfl
    · exact mv hZ q
    · exact mv hZ q
    · exact mvA hZ q
    · exact mv hZ q
    · exact mv hZ q
    · exact mv hZ q
    · exact mv hZ q) hheld (g := mkF m pc Ls st) rfl hd hn hbig hc hl
  subst eT
  have al : T'.vm.Alike Z.vm := (hZ.alike.trans hS'.1.alike).symm
  exact ⟨a, d, cc, T', _, X', rfl, ext_of hb, hS', State.Warmed39.trans (t := s) hZ hS'.1, by rw [show (s.setVm T'.vm).vm = T'.vm from rfl, hS'.1.alike.findClass]; exact hown, hk, own_fldZ al (Fld.start f1), own_fldZ al (Fld.start f2), f3, stp⟩
theorem own_ldcA (X : Stand p l e R s m args below meth c T locs cells slots) (hx : p.tables.exec = Jvm.exec) (hZ : Z.Warmed39 s.vm) {own text : String} {index : Nat} (hown : s.vm.findClass own = some m.cls) (w : (Cond.stringLink own index text).before a0 Z = true) {a : Addr}
    (hk : ∃ k₂, s.vm.classes[m.cls]? = some k₂ ∧ k₂.resolved[index]? = some (some (.string a))) {pc : Nat} {Ls : Array Slot} {st : List Value} (hd : decode c.code pc = .ok (.ldc index, 2)) :
    ∀ t, Steps p.tables e below (T.setTop (mkF m (pc + 2) Ls (.ref a :: st))) t → Steps p.tables e below (T.setTop (mkF m pc Ls st)) t := by
  obtain ⟨k, cf, i, units, hk1, hcf, hcp, -⟩ := Cond.stringLink_spec hown (mvS (s := s) (args := args) hZ w)
  obtain ⟨k₂, hk2, hr⟩ := hk
  cases hk1.symm.trans hk2
  obtain ⟨k', hk', he⟩ := X.warmed.alike.2.2 _ _ hk1
  have hr' : k'.resolved[index]? = some (some (.string a)) := by
    rcases X.warmed.entry hk1 hk' index with h | ⟨h, -⟩
    · rw [h]; exact hr
    · rw [hr] at h; cases h
  intro t hrest
  jvm_step X.here [hx, hd, ldc.wp_string (e := e) (s := T) (f := mkF m pc Ls st) X.here.top hk' (by rw [he]; exact hcf) hcp hr']
  exact hrest
end OwnW

theorem own_c255 (x : Int32) : ¬ (255 : Int32) < ((x &&& (255 : Int32)).toUInt32.toUInt16.toUInt32.toInt32) := by
  rw [i2c_mask, Int32.lt_iff_toInt_lt]
  have := c_and x 255 (by decide)
  have : (255 : Int32).toInt = 255 := rfl
  omega
theorem own_n3 {y : Int32} (h0 : ¬ y &&& (3 : Int32) = 0) (h1 : ¬ y &&& (3 : Int32) = 1) (h2 : ¬ y &&& (3 : Int32) = 2) : y &&& (3 : Int32) = 3 := by
  have := c_and y 3 (by decide)
  have l3 : (3 : Int32).toInt = 3 := rfl
  have l0 : (0 : Int32).toInt = 0 := rfl
  have l1 : (1 : Int32).toInt = 1 := rfl
  have l2 : (2 : Int32).toInt = 2 := rfl
  have a0 : (y &&& (3 : Int32)).toInt ≠ 0 := fun q => h0 (Int32.toInt_inj.mp (by omega))
  have a1 : (y &&& (3 : Int32)).toInt ≠ 1 := fun q => h1 (Int32.toInt_inj.mp (by omega))
  have a2 : (y &&& (3 : Int32)).toInt ≠ 2 := fun q => h2 (Int32.toInt_inj.mp (by omega))
  exact Int32.toInt_inj.mp (by omega)
theorem own_cs {Z : State} {args : Array Value} {t : Term} {x : Int32} (ev : t.eval args Z none [] Z = some (.int x)) (h : (Cond.not (.eq t (.int 0))).value args Z none Z [] = some true) : ¬ x = (0 : Int32) := gotF (Cond.eq_ints ev (Term.int_eval 0)) (not_v h)
theorem own_heldE {s : State} {args : Array Value} (h : constHeld s "java/lang/String" 7) (hlink : (Cond.stringLink "java/lang/String" 7 "").before args s = true) (hcw : compactW.before args s = true) : ConstHeld s "java/lang/String" 7 := by
  intro c k cf i units a hc hk hcf hp hu hor
  obtain ⟨k', cf', i', units', hk', hcf', hp', hu', -, htext, -⟩ := Cond.stringLink_spec hc hlink
  cases hk.symm.trans hk'
  cases hcf.symm.trans hcf'
  cases hp.symm.trans hp'
  cases hu.symm.trans hu'
  have hz : units.size = 0 := by simpa using utf16_units_le htext
  obtain rfl : units = #[] := Array.eq_empty_of_size_eq_zero hz
  obtain ⟨-, hw⟩ := h c k cf i #[] a hc hk hcf hp hu (by simp) hcw hor
  have W := fun w hm => List.all_eq_true.mp hw w hm
  have w2 : (Cond.eq litC (.int 0)).before #[.ref a] s = true := W _ (by simp [latin1L])
  have w4 : (Cond.eq (.length litV) (.int (Int32.ofNat 0))).before #[.ref a] s = true := W _ (by simp [latin1L])
  have e2 := Cond.eq_int w2 rfl
  have e4 := Cond.eq_int w4 rfl
  obtain ⟨sd, SA, hev, harr, hv⟩ := Term.length_spec e4
  have h31 : SA.slots.size < 2 ^ 31 := by
    simp only [Term.eval, hev, harr, Option.bind_eq_bind, Option.bind_some] at e4
    by_cases hn : SA.slots.size < 2 ^ 31
    · exact hn
    · simp [hn] at e4
  have hsz : SA.slots.size = 0 := by
    have q := congrArg Int32.toInt (Value.int.inj hv)
    have l := len_toInt h31
    have z : (Int32.ofNat 0).toInt = 0 := rfl
    have l' : (SA.slots.size.toInt32).toInt = (SA.slots.size : Int) := l
    omega
  have hs : SA.slots = #[] := Array.eq_empty_of_size_eq_zero hsz
  refine ⟨sd, 0, SA, [], ?_, ?_, Or.inl rfl, harr, ?_, rfl⟩
  · simpa [litV, Term.eval] using hev
  · simpa [litC, Term.eval] using e2
  · rw [hs]; rfl

theorem djdk_52_method_21_code_0 : decode jdk_52_method_21_code 0 = .ok (.iconst 0, 1) := by decide +kernel
theorem djdk_52_method_21_code_1 : decode jdk_52_method_21_code 1 = .ok (.istore 5, 2) := by decide +kernel
theorem djdk_52_method_21_code_3 : decode jdk_52_method_21_code 3 = .ok (.iload 5, 2) := by decide +kernel
theorem djdk_52_method_21_code_5 : decode jdk_52_method_21_code 5 = .ok (.iload 4, 2) := by decide +kernel
theorem djdk_52_method_21_code_7 : decode jdk_52_method_21_code 7 = .ok (.if_icmp .ge 37, 3) := by decide +kernel
theorem djdk_52_method_21_code_10 : decode jdk_52_method_21_code 10 = .ok (.aload_n 0, 1) := by decide +kernel
theorem djdk_52_method_21_code_11 : decode jdk_52_method_21_code 11 = .ok (.iload_n 1, 1) := by decide +kernel
theorem djdk_52_method_21_code_12 : decode jdk_52_method_21_code 12 = .ok (.caload, 1) := by decide +kernel
theorem djdk_52_method_21_code_13 : decode jdk_52_method_21_code 13 = .ok (.istore 6, 2) := by decide +kernel
theorem djdk_52_method_21_code_15 : decode jdk_52_method_21_code 15 = .ok (.iload 6, 2) := by decide +kernel
theorem djdk_52_method_21_code_17 : decode jdk_52_method_21_code 17 = .ok (.sipush 255, 3) := by decide +kernel
theorem djdk_52_method_21_code_20 : decode jdk_52_method_21_code 20 = .ok (.if_icmp .le 6, 3) := by decide +kernel
theorem djdk_52_method_21_code_26 : decode jdk_52_method_21_code 26 = .ok (.aload_n 2, 1) := by decide +kernel
theorem djdk_52_method_21_code_27 : decode jdk_52_method_21_code 27 = .ok (.iload_n 3, 1) := by decide +kernel
theorem djdk_52_method_21_code_28 : decode jdk_52_method_21_code 28 = .ok (.iload 6, 2) := by decide +kernel
theorem djdk_52_method_21_code_30 : decode jdk_52_method_21_code 30 = .ok (.i2b, 1) := by decide +kernel
theorem djdk_52_method_21_code_31 : decode jdk_52_method_21_code 31 = .ok (.bastore, 1) := by decide +kernel
theorem djdk_52_method_21_code_32 : decode jdk_52_method_21_code 32 = .ok (.iinc 1 1, 3) := by decide +kernel
theorem djdk_52_method_21_code_35 : decode jdk_52_method_21_code 35 = .ok (.iinc 3 1, 3) := by decide +kernel
theorem djdk_52_method_21_code_38 : decode jdk_52_method_21_code 38 = .ok (.iinc 5 1, 3) := by decide +kernel
theorem djdk_52_method_21_code_41 : decode jdk_52_method_21_code 41 = .ok (.goto (-38), 3) := by decide +kernel
theorem djdk_52_method_21_code_44 : decode jdk_52_method_21_code 44 = .ok (.iload 4, 2) := by decide +kernel
theorem djdk_52_method_21_code_46 : decode jdk_52_method_21_code 46 = .ok (.ireturn, 1) := by decide +kernel
theorem ef_rm5_1 (m_ : MethodId) (a : Addr) (d : Addr) : entryFrame m_ #[(.ref a), (.int (0 : Int32)), (.ref d), (.int (0 : Int32)), (.int (1 : Int32))] 7 = mkF m_ 0 #[.val (.ref a), .val (.int (0 : Int32)), .val (.ref d), .val (.int (0 : Int32)), .val (.int (1 : Int32)), .unset, .unset] [] := by first | (simp [entryFrame, mkF, argsToLocals, Value.category]; done) | rfl
theorem own_pn0 : plainName "java/lang/StringUTF16" = true := by first | (simp [plainName, overriddenIn]; done) | decide +kernel
set_option maxRecDepth 65536 in
set_option maxHeartbeats 40000000 in
theorem rm5_1 (l : Launch) (Z : State) (a0 : Array Value) (hw : ∀ d ∈ tables_1, d.before a0 Z = true) (a : Addr) (d : Addr) (ka kd : ClassId) (c0 : Int32) (h0 : Heap) (n0 : Nat) (Z0 : n0 ≤ h0.size) (A_a : own_A Z h0 a ka .char 1 (fun x_ => .int (([c0] : List Int32).getD x_ 0))) (A_d : own_A Z h0 d kd .byte 1 (fun x_ => .int (([(0 : Int32)] : List Int32).getD x_ 0))) (ne_a_d : a ≠ d) (g_d : n0 ≤ d) (hc0 : ¬ (255 : Int32) < c0) :
    own_Met l Z (⟨"java/lang/StringUTF16", "compress", "([CI[BII)I"⟩ : MethodName) jdk_52_method_21_code 7 (some .int) ({ frames := 0, cells := 0, slots := 0, locals := 0 } : Room) #[(.ref a), (.int (0 : Int32)), (.ref d), (.int (0 : Int32)), (.int (1 : Int32))] h0 (fun v h L => v = some (.int (1 : Int32)) ∧ Fr n0 L ∧ Keep h0 h [d] ∧ own_A Z h d kd .byte 1 (fun x_ => .int (([(c0.toInt8.toInt32)] : List Int32).getD x_ 0))) := by
  refine own_body #[.val (.ref a), .val (.int (0 : Int32)), .val (.ref d), .val (.int (0 : Int32)), .val (.int (1 : Int32)), .unset, .unset] (plainFor_of_name own_pn0) (fun m_ => ef_rm5_1 m_ a d) ?_
  intro p_ e_ s_ m_ below meth c_ s₁ X0 hx hby hml hret hlk hZ hown hnm e0
  have N0 := Fr.nil n0
  have KP := Keep.refl h0 [d]
  show own_Out p_ e_ below s_ _ _ _ s₁ (mkF m_ 0 #[.val (.ref a), .val (.int (0 : Int32)), .val (.ref d), .val (.int (0 : Int32)), .val (.int (1 : Int32)), .unset, .unset] [])
  refine own_st s₁ (mkF m_ 31 #[.val (.ref a), .val (.int (0 : Int32)), .val (.ref d), .val (.int (0 : Int32)), .val (.int (1 : Int32)), .val (.int (0 : Int32)), .val (.int c0)] [(.int (c0.toInt8.toInt32)), (.int (0 : Int32)), (.ref d)]) (fun t_ k_ => ?_) ?_
  · refine XS.iconst X0.here hx rfl (hb hby djdk_52_method_21_code_0) ?_
    show Steps p_.tables e_ below (s₁.setTop (mkF m_ 1 #[.val (.ref a), .val (.int (0 : Int32)), .val (.ref d), .val (.int (0 : Int32)), .val (.int (1 : Int32)), .unset, .unset] [(.int (0 : Int32))])) t_
    refine XS.istore X0.here hx rfl (hb hby djdk_52_method_21_code_1) rfl (l' := #[.val (.ref a), .val (.int (0 : Int32)), .val (.ref d), .val (.int (0 : Int32)), .val (.int (1 : Int32)), .val (.int (0 : Int32)), .unset]) rfl ?_
    show Steps p_.tables e_ below (s₁.setTop (mkF m_ 3 #[.val (.ref a), .val (.int (0 : Int32)), .val (.ref d), .val (.int (0 : Int32)), .val (.int (1 : Int32)), .val (.int (0 : Int32)), .unset] [])) t_
    refine XS.iload X0.here hx rfl (hb hby djdk_52_method_21_code_3) rfl ?_
    show Steps p_.tables e_ below (s₁.setTop (mkF m_ 5 #[.val (.ref a), .val (.int (0 : Int32)), .val (.ref d), .val (.int (0 : Int32)), .val (.int (1 : Int32)), .val (.int (0 : Int32)), .unset] [(.int (0 : Int32))])) t_
    refine XS.iload X0.here hx rfl (hb hby djdk_52_method_21_code_5) rfl ?_
    show Steps p_.tables e_ below (s₁.setTop (mkF m_ 7 #[.val (.ref a), .val (.int (0 : Int32)), .val (.ref d), .val (.int (0 : Int32)), .val (.int (1 : Int32)), .val (.int (0 : Int32)), .unset] [(.int (1 : Int32)), (.int (0 : Int32))])) t_
    refine XS.icmpNo X0.here hx rfl (hb hby djdk_52_method_21_code_7) rfl (tlt (by decide : (0 : Int32) < (1 : Int32))).2.1 ?_
    show Steps p_.tables e_ below (s₁.setTop (mkF m_ 10 #[.val (.ref a), .val (.int (0 : Int32)), .val (.ref d), .val (.int (0 : Int32)), .val (.int (1 : Int32)), .val (.int (0 : Int32)), .unset] [])) t_
    refine XS.aloadN X0.here hx rfl (hb hby djdk_52_method_21_code_10) rfl rfl ?_
    show Steps p_.tables e_ below (s₁.setTop (mkF m_ 11 #[.val (.ref a), .val (.int (0 : Int32)), .val (.ref d), .val (.int (0 : Int32)), .val (.int (1 : Int32)), .val (.int (0 : Int32)), .unset] [(.ref a)])) t_
    refine XS.iloadN X0.here hx rfl (hb hby djdk_52_method_21_code_11) rfl ?_
    show Steps p_.tables e_ below (s₁.setTop (mkF m_ 12 #[.val (.ref a), .val (.int (0 : Int32)), .val (.ref d), .val (.int (0 : Int32)), .val (.int (1 : Int32)), .val (.int (0 : Int32)), .unset] [(.int (0 : Int32)), (.ref a)])) t_
    refine own_ldC X0 hx hZ e0 A_a 0 (by decide) (by decide) (hb hby djdk_52_method_21_code_12) _ ?_
    show Steps p_.tables e_ below (s₁.setTop (mkF m_ 13 #[.val (.ref a), .val (.int (0 : Int32)), .val (.ref d), .val (.int (0 : Int32)), .val (.int (1 : Int32)), .val (.int (0 : Int32)), .unset] [(.int c0)])) t_
    refine XS.istore X0.here hx rfl (hb hby djdk_52_method_21_code_13) rfl (l' := #[.val (.ref a), .val (.int (0 : Int32)), .val (.ref d), .val (.int (0 : Int32)), .val (.int (1 : Int32)), .val (.int (0 : Int32)), .val (.int c0)]) rfl ?_
    show Steps p_.tables e_ below (s₁.setTop (mkF m_ 15 #[.val (.ref a), .val (.int (0 : Int32)), .val (.ref d), .val (.int (0 : Int32)), .val (.int (1 : Int32)), .val (.int (0 : Int32)), .val (.int c0)] [])) t_
    refine XS.iload X0.here hx rfl (hb hby djdk_52_method_21_code_15) rfl ?_
    show Steps p_.tables e_ below (s₁.setTop (mkF m_ 17 #[.val (.ref a), .val (.int (0 : Int32)), .val (.ref d), .val (.int (0 : Int32)), .val (.int (1 : Int32)), .val (.int (0 : Int32)), .val (.int c0)] [(.int c0)])) t_
    refine XS.sipush X0.here hx rfl (hb hby djdk_52_method_21_code_17) ?_
    show Steps p_.tables e_ below (s₁.setTop (mkF m_ 20 #[.val (.ref a), .val (.int (0 : Int32)), .val (.ref d), .val (.int (0 : Int32)), .val (.int (1 : Int32)), .val (.int (0 : Int32)), .val (.int c0)] [(.int (255 : Int32)), (.int c0)])) t_
    refine XS.icmpYes X0.here hx rfl (pc0 := 20) (pc' := 26) rfl (hb hby djdk_52_method_21_code_20) rfl (flt (hc0 : ¬ ((255 : Int32) < c0))).2.2.2 (by decide) (by decide) ?_
    show Steps p_.tables e_ below (s₁.setTop (mkF m_ 26 #[.val (.ref a), .val (.int (0 : Int32)), .val (.ref d), .val (.int (0 : Int32)), .val (.int (1 : Int32)), .val (.int (0 : Int32)), .val (.int c0)] [])) t_
    refine XS.aloadN X0.here hx rfl (hb hby djdk_52_method_21_code_26) rfl rfl ?_
    show Steps p_.tables e_ below (s₁.setTop (mkF m_ 27 #[.val (.ref a), .val (.int (0 : Int32)), .val (.ref d), .val (.int (0 : Int32)), .val (.int (1 : Int32)), .val (.int (0 : Int32)), .val (.int c0)] [(.ref d)])) t_
    refine XS.iloadN X0.here hx rfl (hb hby djdk_52_method_21_code_27) rfl ?_
    show Steps p_.tables e_ below (s₁.setTop (mkF m_ 28 #[.val (.ref a), .val (.int (0 : Int32)), .val (.ref d), .val (.int (0 : Int32)), .val (.int (1 : Int32)), .val (.int (0 : Int32)), .val (.int c0)] [(.int (0 : Int32)), (.ref d)])) t_
    refine XS.iload X0.here hx rfl (hb hby djdk_52_method_21_code_28) rfl ?_
    show Steps p_.tables e_ below (s₁.setTop (mkF m_ 30 #[.val (.ref a), .val (.int (0 : Int32)), .val (.ref d), .val (.int (0 : Int32)), .val (.int (1 : Int32)), .val (.int (0 : Int32)), .val (.int c0)] [(.int c0), (.int (0 : Int32)), (.ref d)])) t_
    refine XS.i2b X0.here hx rfl (hb hby djdk_52_method_21_code_30) rfl ?_
    show Steps p_.tables e_ below (s₁.setTop (mkF m_ 31 #[.val (.ref a), .val (.int (0 : Int32)), .val (.ref d), .val (.int (0 : Int32)), .val (.int (1 : Int32)), .val (.int (0 : Int32)), .val (.int c0)] [(.int (c0.toInt8.toInt32)), (.int (0 : Int32)), (.ref d)])) t_
    exact k_
  obtain ⟨T1, h1, X1, e1, W1, st1⟩ := own_stB X0 hx hZ e0 A_d (c0.toInt8.toInt32) (own_nb _) 0 (by decide) (by decide) (j := (0 : Int32)) (x := (c0.toInt8.toInt32)) (Ls := #[.val (.ref a), .val (.int (0 : Int32)), .val (.ref d), .val (.int (0 : Int32)), .val (.int (1 : Int32)), .val (.int (0 : Int32)), .val (.int c0)]) (rest := []) (hb hby djdk_52_method_21_code_31)
  have N1 := Fr.snoc X1 N0 g_d
  replace Z0 : n0 ≤ h1.size := W1.size ▸ Z0
  replace KP := KP.wr W1 (Or.inl (List.mem_of_getElem? (i := 0) rfl))
  replace A_a := A_a.other W1 ne_a_d
  replace A_d : own_A Z h1 d kd .byte 1 (fun x_ => .int (([(c0.toInt8.toInt32)] : List Int32).getD x_ 0)) := A_d.setLI (by decide) (Nat.le_of_ble_eq_true rfl) W1
  refine own_st T1 (mkF m_ 32 #[.val (.ref a), .val (.int (0 : Int32)), .val (.ref d), .val (.int (0 : Int32)), .val (.int (1 : Int32)), .val (.int (0 : Int32)), .val (.int c0)] []) st1 ?_
  refine own_st T1 (mkF m_ 46 #[.val (.ref a), .val (.int (1 : Int32)), .val (.ref d), .val (.int (1 : Int32)), .val (.int (1 : Int32)), .val (.int (1 : Int32)), .val (.int c0)] [(.int (1 : Int32))]) (fun t_ k_ => ?_) ?_
  · refine XS.iinc X1.here hx rfl (hb hby djdk_52_method_21_code_32) rfl (l' := #[.val (.ref a), .val (.int (1 : Int32)), .val (.ref d), .val (.int (0 : Int32)), .val (.int (1 : Int32)), .val (.int (0 : Int32)), .val (.int c0)]) rfl ?_
    show Steps p_.tables e_ below (T1.setTop (mkF m_ 35 #[.val (.ref a), .val (.int (1 : Int32)), .val (.ref d), .val (.int (0 : Int32)), .val (.int (1 : Int32)), .val (.int (0 : Int32)), .val (.int c0)] [])) t_
    refine XS.iinc X1.here hx rfl (hb hby djdk_52_method_21_code_35) rfl (l' := #[.val (.ref a), .val (.int (1 : Int32)), .val (.ref d), .val (.int (1 : Int32)), .val (.int (1 : Int32)), .val (.int (0 : Int32)), .val (.int c0)]) rfl ?_
    show Steps p_.tables e_ below (T1.setTop (mkF m_ 38 #[.val (.ref a), .val (.int (1 : Int32)), .val (.ref d), .val (.int (1 : Int32)), .val (.int (1 : Int32)), .val (.int (0 : Int32)), .val (.int c0)] [])) t_
    refine XS.iinc X1.here hx rfl (hb hby djdk_52_method_21_code_38) rfl (l' := #[.val (.ref a), .val (.int (1 : Int32)), .val (.ref d), .val (.int (1 : Int32)), .val (.int (1 : Int32)), .val (.int (1 : Int32)), .val (.int c0)]) rfl ?_
    show Steps p_.tables e_ below (T1.setTop (mkF m_ 41 #[.val (.ref a), .val (.int (1 : Int32)), .val (.ref d), .val (.int (1 : Int32)), .val (.int (1 : Int32)), .val (.int (1 : Int32)), .val (.int c0)] [])) t_
    refine XS.goto X1.here hx rfl (pc0 := 41) (pc' := 3) rfl (hb hby djdk_52_method_21_code_41) (by decide) (by decide) ?_
    show Steps p_.tables e_ below (T1.setTop (mkF m_ 3 #[.val (.ref a), .val (.int (1 : Int32)), .val (.ref d), .val (.int (1 : Int32)), .val (.int (1 : Int32)), .val (.int (1 : Int32)), .val (.int c0)] [])) t_
    refine XS.iload X1.here hx rfl (hb hby djdk_52_method_21_code_3) rfl ?_
    show Steps p_.tables e_ below (T1.setTop (mkF m_ 5 #[.val (.ref a), .val (.int (1 : Int32)), .val (.ref d), .val (.int (1 : Int32)), .val (.int (1 : Int32)), .val (.int (1 : Int32)), .val (.int c0)] [(.int (1 : Int32))])) t_
    refine XS.iload X1.here hx rfl (hb hby djdk_52_method_21_code_5) rfl ?_
    show Steps p_.tables e_ below (T1.setTop (mkF m_ 7 #[.val (.ref a), .val (.int (1 : Int32)), .val (.ref d), .val (.int (1 : Int32)), .val (.int (1 : Int32)), .val (.int (1 : Int32)), .val (.int c0)] [(.int (1 : Int32)), (.int (1 : Int32))])) t_
    refine XS.icmpYes X1.here hx rfl (pc0 := 7) (pc' := 44) rfl (hb hby djdk_52_method_21_code_7) rfl (flt (by decide : ¬ ((1 : Int32) < (1 : Int32)))).2.1 (by decide) (by decide) ?_
    show Steps p_.tables e_ below (T1.setTop (mkF m_ 44 #[.val (.ref a), .val (.int (1 : Int32)), .val (.ref d), .val (.int (1 : Int32)), .val (.int (1 : Int32)), .val (.int (1 : Int32)), .val (.int c0)] [])) t_
    refine XS.iload X1.here hx rfl (hb hby djdk_52_method_21_code_44) rfl ?_
    show Steps p_.tables e_ below (T1.setTop (mkF m_ 46 #[.val (.ref a), .val (.int (1 : Int32)), .val (.ref d), .val (.int (1 : Int32)), .val (.int (1 : Int32)), .val (.int (1 : Int32)), .val (.int c0)] [(.int (1 : Int32))])) t_
    exact k_
  refine own_retI X1 hx hlk hret (hb hby djdk_52_method_21_code_46) (by decide) (by decide) ?_
  rw [e1]
  exact ⟨rfl, N1, KP, A_d⟩
theorem djdk_52_method_16_code_0 : decode jdk_52_method_16_code 0 = .ok (.iload_n 2, 1) := by decide +kernel
theorem djdk_52_method_16_code_1 : decode jdk_52_method_16_code 1 = .ok (.newarray .byte, 2) := by decide +kernel
theorem djdk_52_method_16_code_3 : decode jdk_52_method_16_code 3 = .ok (.astore_n 3, 1) := by decide +kernel
theorem djdk_52_method_16_code_4 : decode jdk_52_method_16_code 4 = .ok (.aload_n 0, 1) := by decide +kernel
theorem djdk_52_method_16_code_5 : decode jdk_52_method_16_code 5 = .ok (.iload_n 1, 1) := by decide +kernel
theorem djdk_52_method_16_code_6 : decode jdk_52_method_16_code 6 = .ok (.aload_n 3, 1) := by decide +kernel
theorem djdk_52_method_16_code_7 : decode jdk_52_method_16_code 7 = .ok (.iconst 0, 1) := by decide +kernel
theorem djdk_52_method_16_code_8 : decode jdk_52_method_16_code 8 = .ok (.iload_n 2, 1) := by decide +kernel
theorem own_pd0 : parseMethodDescriptor "([CI[BII)I" = some ⟨[(.array .char), .int, (.array .byte), .int, .int], some .int⟩ := by decide +kernel
theorem djdk_52_method_16_code_9 : decode jdk_52_method_16_code 9 = .ok (.invokestatic 115, 3) := by decide +kernel
theorem djdk_52_method_16_code_12 : decode jdk_52_method_16_code 12 = .ok (.istore 4, 2) := by decide +kernel
theorem djdk_52_method_16_code_14 : decode jdk_52_method_16_code 14 = .ok (.iload 4, 2) := by decide +kernel
theorem djdk_52_method_16_code_16 : decode jdk_52_method_16_code 16 = .ok (.iload_n 2, 1) := by decide +kernel
theorem djdk_52_method_16_code_17 : decode jdk_52_method_16_code 17 = .ok (.if_icmp .eq 40, 3) := by decide +kernel
theorem djdk_52_method_16_code_57 : decode jdk_52_method_16_code 57 = .ok (.aload_n 3, 1) := by decide +kernel
theorem djdk_52_method_16_code_58 : decode jdk_52_method_16_code 58 = .ok (.areturn, 1) := by decide +kernel
theorem ef_rm4_1 (m_ : MethodId) (a : Addr) : entryFrame m_ #[(.ref a), (.int (0 : Int32)), (.int (1 : Int32))] 6 = mkF m_ 0 #[.val (.ref a), .val (.int (0 : Int32)), .val (.int (1 : Int32)), .unset, .unset, .unset] [] := by first | (simp [entryFrame, mkF, argsToLocals, Value.category]; done) | rfl
set_option maxRecDepth 65536 in
set_option maxHeartbeats 40000000 in
theorem rm4_1 (l : Launch) (Z : State) (a0 : Array Value) (hw : ∀ d ∈ tables_1, d.before a0 Z = true) (a : Addr) (ka : ClassId) (c0 : Int32) (h0 : Heap) (n0 : Nat) (Z0 : n0 ≤ h0.size) (A_a : own_A Z h0 a ka .char 1 (fun x_ => .int (([c0] : List Int32).getD x_ 0))) (hc0 : ¬ (255 : Int32) < c0) :
    own_Met l Z (⟨"java/lang/StringUTF16", "compress", "([CII)[B"⟩ : MethodName) jdk_52_method_16_code 6 (some (.array .byte)) ({ frames := 1, cells := 1, slots := 1, locals := 18 } : Room) #[(.ref a), (.int (0 : Int32)), (.int (1 : Int32))] h0 (fun v h L => ∃ (d : Addr) (kd : ClassId), v = some (.ref d) ∧ n0 ≤ d ∧ h0.size ≤ d ∧ Fr n0 L ∧ Keep h0 h [] ∧ own_A Z h d kd .byte 1 (fun x_ => .int (([(c0.toInt8.toInt32)] : List Int32).getD x_ 0))) := by
  refine own_body #[.val (.ref a), .val (.int (0 : Int32)), .val (.int (1 : Int32)), .unset, .unset, .unset] (plainFor_of_name own_pn0) (fun m_ => ef_rm4_1 m_ a) ?_
  intro p_ e_ s_ m_ below meth c_ s₁ X0 hx hby hml hret hlk hZ hown hnm e0
  have N0 := Fr.nil n0
  have KP := Keep.refl h0 []
  show own_Out p_ e_ below s_ _ _ _ s₁ (mkF m_ 0 #[.val (.ref a), .val (.int (0 : Int32)), .val (.int (1 : Int32)), .unset, .unset, .unset] [])
  refine own_st s₁ (mkF m_ 1 #[.val (.ref a), .val (.int (0 : Int32)), .val (.int (1 : Int32)), .unset, .unset, .unset] [(.int (1 : Int32))]) (fun t_ k_ => ?_) ?_
  · refine XS.iloadN X0.here hx rfl (hb hby djdk_52_method_16_code_0) rfl ?_
    show Steps p_.tables e_ below (s₁.setTop (mkF m_ 1 #[.val (.ref a), .val (.int (0 : Int32)), .val (.int (1 : Int32)), .unset, .unset, .unset] [(.int (1 : Int32))])) t_
    exact k_
  obtain ⟨T1, h1, k1, X1, e1, E1, A1, st1⟩ := newP X0 hx hZ (hw _ (List.mem_of_getElem? (i := 19) rfl)) e0 (g := (mkF m_ 1 #[.val (.ref a), .val (.int (0 : Int32)), .val (.int (1 : Int32)), .unset, .unset, .unset] [(.int (1 : Int32))])) rfl (hb hby djdk_52_method_16_code_1) rfl (by decide) (cap := 1) (by decide) (by decide) (by decide) (by decide)
  obtain ⟨b1, g1⟩ : ∃ z, z = h0.size := ⟨_, rfl⟩
  rw [← g1] at A1 st1
  have g_b1 : n0 ≤ b1 := g1 ▸ Z0
  have sz_b1 : h0.size ≤ b1 := g1 ▸ KP.1
  have ne_a_b1 : a ≠ b1 := Nat.ne_of_lt (Nat.lt_of_lt_of_le A_a.lt (Nat.le_of_eq g1.symm))
  replace KP := KP.ext E1
  replace A_a := A_a.ext E1
  replace Z0 : n0 ≤ h1.size := Nat.le_trans Z0 E1.1
  have A_b1 : own_A Z h1 b1 k1 .byte 1 (fun x_ => .int (([(0 : Int32)] : List Int32).getD x_ 0)) := own_A.newLI A1 (by decide) 1 (by decide) rfl
  refine own_st T1 (mkF m_ 3 #[.val (.ref a), .val (.int (0 : Int32)), .val (.int (1 : Int32)), .unset, .unset, .unset] [(.ref b1)]) st1 ?_
  refine own_st T1 (mkF m_ 9 #[.val (.ref a), .val (.int (0 : Int32)), .val (.int (1 : Int32)), .val (.ref b1), .unset, .unset] [(.int (1 : Int32)), (.int (0 : Int32)), (.ref b1), (.int (0 : Int32)), (.ref a)]) (fun t_ k_ => ?_) ?_
  · refine XS.astoreN X1.here hx rfl (hb hby djdk_52_method_16_code_3) rfl rfl (l' := #[.val (.ref a), .val (.int (0 : Int32)), .val (.int (1 : Int32)), .val (.ref b1), .unset, .unset]) rfl ?_
    show Steps p_.tables e_ below (T1.setTop (mkF m_ 4 #[.val (.ref a), .val (.int (0 : Int32)), .val (.int (1 : Int32)), .val (.ref b1), .unset, .unset] [])) t_
    refine XS.aloadN X1.here hx rfl (hb hby djdk_52_method_16_code_4) rfl rfl ?_
    show Steps p_.tables e_ below (T1.setTop (mkF m_ 5 #[.val (.ref a), .val (.int (0 : Int32)), .val (.int (1 : Int32)), .val (.ref b1), .unset, .unset] [(.ref a)])) t_
    refine XS.iloadN X1.here hx rfl (hb hby djdk_52_method_16_code_5) rfl ?_
    show Steps p_.tables e_ below (T1.setTop (mkF m_ 6 #[.val (.ref a), .val (.int (0 : Int32)), .val (.int (1 : Int32)), .val (.ref b1), .unset, .unset] [(.int (0 : Int32)), (.ref a)])) t_
    refine XS.aloadN X1.here hx rfl (hb hby djdk_52_method_16_code_6) rfl rfl ?_
    show Steps p_.tables e_ below (T1.setTop (mkF m_ 7 #[.val (.ref a), .val (.int (0 : Int32)), .val (.int (1 : Int32)), .val (.ref b1), .unset, .unset] [(.ref b1), (.int (0 : Int32)), (.ref a)])) t_
    refine XS.iconst X1.here hx rfl (hb hby djdk_52_method_16_code_7) ?_
    show Steps p_.tables e_ below (T1.setTop (mkF m_ 8 #[.val (.ref a), .val (.int (0 : Int32)), .val (.int (1 : Int32)), .val (.ref b1), .unset, .unset] [(.int (0 : Int32)), (.ref b1), (.int (0 : Int32)), (.ref a)])) t_
    refine XS.iloadN X1.here hx rfl (hb hby djdk_52_method_16_code_8) rfl ?_
    show Steps p_.tables e_ below (T1.setTop (mkF m_ 9 #[.val (.ref a), .val (.int (0 : Int32)), .val (.int (1 : Int32)), .val (.ref b1), .unset, .unset] [(.int (1 : Int32)), (.int (0 : Int32)), (.ref b1), (.int (0 : Int32)), (.ref a)])) t_
    exact k_
  refine own_callS X1 hx hZ hown (hw _ (List.mem_of_getElem? (i := 20) rfl)) (hw _ (List.mem_of_getElem? (i := 21) rfl)) (hw _ (List.mem_of_getElem? (i := 17) rfl)) (hw _ (List.mem_of_getElem? (i := 22) rfl)) (by decide) [(.ref a), (.int (0 : Int32)), (.ref b1), (.int (0 : Int32)), (.int (1 : Int32))] [] (rm5_1 l Z a0 hw a b1 ka k1 c0 h1 n0 Z0 A_a A_b1 ne_a_b1 g_b1 hc0) 0 (by decide) (by decide) e1 (by rw [hml]; rfl) (lenOf own_pd0 rfl) rfl (Nat.le_of_eq rfl) (hb hby djdk_52_method_16_code_9) (by decide) (by decide) ?_
  intro v2 T2 L2 X2 q2
  obtain ⟨rfl, N2q, K2, Aq2⟩ := q2
  have N2 := Fr.app N0 N2q
  replace KP := KP.trans K2 (allS (Or.inr sz_b1) all0)
  replace A_a := A_a.keep K2 (ninS ne_a_b1 nin0)
  -- A_b1 is dropped: written by the callee
  replace Z0 : n0 ≤ T2.heap.size := Nat.le_trans Z0 K2.1
  have A_b1 := Aq2
  show own_Out p_ e_ below _ _ _ _ T2 (mkF m_ 12 #[.val (.ref a), .val (.int (0 : Int32)), .val (.int (1 : Int32)), .val (.ref b1), .unset, .unset] [(.int (1 : Int32))])
  refine own_st T2 (mkF m_ 58 #[.val (.ref a), .val (.int (0 : Int32)), .val (.int (1 : Int32)), .val (.ref b1), .val (.int (1 : Int32)), .unset] [(.ref b1)]) (fun t_ k_ => ?_) ?_
  · refine XS.istore X2.here hx rfl (hb hby djdk_52_method_16_code_12) rfl (l' := #[.val (.ref a), .val (.int (0 : Int32)), .val (.int (1 : Int32)), .val (.ref b1), .val (.int (1 : Int32)), .unset]) rfl ?_
    show Steps p_.tables e_ below (T2.setTop (mkF m_ 14 #[.val (.ref a), .val (.int (0 : Int32)), .val (.int (1 : Int32)), .val (.ref b1), .val (.int (1 : Int32)), .unset] [])) t_
    refine XS.iload X2.here hx rfl (hb hby djdk_52_method_16_code_14) rfl ?_
    show Steps p_.tables e_ below (T2.setTop (mkF m_ 16 #[.val (.ref a), .val (.int (0 : Int32)), .val (.int (1 : Int32)), .val (.ref b1), .val (.int (1 : Int32)), .unset] [(.int (1 : Int32))])) t_
    refine XS.iloadN X2.here hx rfl (hb hby djdk_52_method_16_code_16) rfl ?_
    show Steps p_.tables e_ below (T2.setTop (mkF m_ 17 #[.val (.ref a), .val (.int (0 : Int32)), .val (.int (1 : Int32)), .val (.ref b1), .val (.int (1 : Int32)), .unset] [(.int (1 : Int32)), (.int (1 : Int32))])) t_
    refine XS.icmpYes X2.here hx rfl (pc0 := 17) (pc' := 57) rfl (hb hby djdk_52_method_16_code_17) rfl (teq (by decide : (1 : Int32) = (1 : Int32))).1 (by decide) (by decide) ?_
    show Steps p_.tables e_ below (T2.setTop (mkF m_ 57 #[.val (.ref a), .val (.int (0 : Int32)), .val (.int (1 : Int32)), .val (.ref b1), .val (.int (1 : Int32)), .unset] [])) t_
    refine XS.aloadN X2.here hx rfl (hb hby djdk_52_method_16_code_57) rfl rfl ?_
    show Steps p_.tables e_ below (T2.setTop (mkF m_ 58 #[.val (.ref a), .val (.int (0 : Int32)), .val (.int (1 : Int32)), .val (.ref b1), .val (.int (1 : Int32)), .unset] [(.ref b1)])) t_
    exact k_
  refine own_retA X2 hx hlk hret rfl rfl (hb hby djdk_52_method_16_code_58) (by decide) (by decide) ?_
  exact ⟨b1, k1, rfl, g_b1, sz_b1, N2, KP, A_b1⟩
theorem djdk_52_method_15_code_0 : decode jdk_52_method_15_code 0 = .ok (.iload_n 1, 1) := by decide +kernel
theorem djdk_52_method_15_code_1 : decode jdk_52_method_15_code 1 = .ok (.aload_n 0, 1) := by decide +kernel
theorem djdk_52_method_15_code_2 : decode jdk_52_method_15_code 2 = .ok (.arraylength, 1) := by decide +kernel
theorem djdk_52_method_15_code_3 : decode jdk_52_method_15_code 3 = .ok (.isub, 1) := by decide +kernel
theorem djdk_52_method_15_code_4 : decode jdk_52_method_15_code 4 = .ok (.bipush 31, 2) := by decide +kernel
theorem djdk_52_method_15_code_6 : decode jdk_52_method_15_code 6 = .ok (.iushr, 1) := by decide +kernel
theorem djdk_52_method_15_code_7 : decode jdk_52_method_15_code 7 = .ok (.i2b, 1) := by decide +kernel
theorem djdk_52_method_15_code_8 : decode jdk_52_method_15_code 8 = .ok (.ireturn, 1) := by decide +kernel
theorem ef_rm6_1 (m_ : MethodId) (d : Addr) : entryFrame m_ #[(.ref d), (.int (1 : Int32))] 2 = mkF m_ 0 #[.val (.ref d), .val (.int (1 : Int32))] [] := by first | (simp [entryFrame, mkF, argsToLocals, Value.category]; done) | rfl
set_option maxRecDepth 65536 in
set_option maxHeartbeats 40000000 in
theorem rm6_1 (l : Launch) (Z : State) (a0 : Array Value) (hw : ∀ d ∈ tables_1, d.before a0 Z = true) (d : Addr) (kd : ClassId) (c0 : Int32) (h0 : Heap) (n0 : Nat) (Z0 : n0 ≤ h0.size) (A_d : own_A Z h0 d kd .byte 1 (fun x_ => .int (([(c0.toInt8.toInt32)] : List Int32).getD x_ 0))) :
    own_Met l Z (⟨"java/lang/StringUTF16", "coderFromArrayLen", "([BI)B"⟩ : MethodName) jdk_52_method_15_code 2 (some .byte) ({ frames := 0, cells := 0, slots := 0, locals := 0 } : Room) #[(.ref d), (.int (1 : Int32))] h0 (fun v h L => v = some (.int (0 : Int32)) ∧ Fr n0 L ∧ h = h0) := by
  refine own_body #[.val (.ref d), .val (.int (1 : Int32))] (plainFor_of_name own_pn0) (fun m_ => ef_rm6_1 m_ d) ?_
  intro p_ e_ s_ m_ below meth c_ s₁ X0 hx hby hml hret hlk hZ hown hnm e0
  have N0 := Fr.nil n0
  show own_Out p_ e_ below s_ _ _ _ s₁ (mkF m_ 0 #[.val (.ref d), .val (.int (1 : Int32))] [])
  refine own_st s₁ (mkF m_ 8 #[.val (.ref d), .val (.int (1 : Int32))] [(.int ((0 : Int32).toInt8.toInt32))]) (fun t_ k_ => ?_) ?_
  · refine XS.iloadN X0.here hx rfl (hb hby djdk_52_method_15_code_0) rfl ?_
    show Steps p_.tables e_ below (s₁.setTop (mkF m_ 1 #[.val (.ref d), .val (.int (1 : Int32))] [(.int (1 : Int32))])) t_
    refine XS.aloadN X0.here hx rfl (hb hby djdk_52_method_15_code_1) rfl rfl ?_
    show Steps p_.tables e_ below (s₁.setTop (mkF m_ 2 #[.val (.ref d), .val (.int (1 : Int32))] [(.ref d), (.int (1 : Int32))])) t_
    refine own_len X0 hx hZ e0 A_d (hb hby djdk_52_method_15_code_2) (1 : Int32) (by decide) _ ?_
    show Steps p_.tables e_ below (s₁.setTop (mkF m_ 3 #[.val (.ref d), .val (.int (1 : Int32))] [(.int (1 : Int32)), (.int (1 : Int32))])) t_
    refine XS.isub X0.here hx rfl (hb hby djdk_52_method_15_code_3) rfl ?_
    show Steps p_.tables e_ below (s₁.setTop (mkF m_ 4 #[.val (.ref d), .val (.int (1 : Int32))] [(.int (0 : Int32))])) t_
    refine XS.bipush X0.here hx rfl (hb hby djdk_52_method_15_code_4) ?_
    show Steps p_.tables e_ below (s₁.setTop (mkF m_ 6 #[.val (.ref d), .val (.int (1 : Int32))] [(.int (31 : Int32)), (.int (0 : Int32))])) t_
    refine XS.iushr X0.here hx rfl (hb hby djdk_52_method_15_code_6) rfl ?_
    show Steps p_.tables e_ below (s₁.setTop (mkF m_ 7 #[.val (.ref d), .val (.int (1 : Int32))] [(.int (0 : Int32))])) t_
    refine XS.i2b X0.here hx rfl (hb hby djdk_52_method_15_code_7) rfl ?_
    show Steps p_.tables e_ below (s₁.setTop (mkF m_ 8 #[.val (.ref d), .val (.int (1 : Int32))] [(.int ((0 : Int32).toInt8.toInt32))])) t_
    exact k_
  refine own_retN X0 hx hlk (t := .byte) hret (by simp) (hb hby djdk_52_method_15_code_8) (by decide) (by decide) ?_
  rw [e0]
  exact ⟨rfl, N0, rfl⟩
theorem djdk_42_method_149_code_0 : decode jdk_42_method_149_code 0 = .ok (.aload_n 0, 1) := by decide +kernel
theorem djdk_42_method_149_code_1 : decode jdk_42_method_149_code 1 = .ok (.invokespecial 1, 3) := by decide +kernel
theorem djdk_42_method_149_code_4 : decode jdk_42_method_149_code 4 = .ok (.iload_n 3, 1) := by decide +kernel
theorem djdk_42_method_149_code_5 : decode jdk_42_method_149_code 5 = .ok (.ifCond .ne 22, 3) := by decide +kernel
theorem djdk_42_method_149_code_27 : decode jdk_42_method_149_code 27 = .ok (.getstatic 38, 3) := by decide +kernel
theorem djdk_42_method_149_code_30 : decode jdk_42_method_149_code 30 = .ok (.ifCond .eq 28, 3) := by decide +kernel
theorem djdk_42_method_149_code_33 : decode jdk_42_method_149_code 33 = .ok (.aload_n 1, 1) := by decide +kernel
theorem djdk_42_method_149_code_34 : decode jdk_42_method_149_code 34 = .ok (.iload_n 2, 1) := by decide +kernel
theorem djdk_42_method_149_code_35 : decode jdk_42_method_149_code 35 = .ok (.iload_n 3, 1) := by decide +kernel
theorem own_pd1 : parseMethodDescriptor "([CII)[B" = some ⟨[(.array .char), .int, .int], some (.array .byte)⟩ := by decide +kernel
theorem djdk_42_method_149_code_36 : decode jdk_42_method_149_code 36 = .ok (.invokestatic 177, 3) := by decide +kernel
theorem djdk_42_method_149_code_39 : decode jdk_42_method_149_code 39 = .ok (.astore 5, 2) := by decide +kernel
theorem djdk_42_method_149_code_41 : decode jdk_42_method_149_code 41 = .ok (.aload_n 0, 1) := by decide +kernel
theorem djdk_42_method_149_code_42 : decode jdk_42_method_149_code 42 = .ok (.aload 5, 2) := by decide +kernel
theorem djdk_42_method_149_code_44 : decode jdk_42_method_149_code 44 = .ok (.iload_n 3, 1) := by decide +kernel
theorem own_pd2 : parseMethodDescriptor "([BI)B" = some ⟨[(.array .byte), .int], some .byte⟩ := by decide +kernel
theorem djdk_42_method_149_code_45 : decode jdk_42_method_149_code 45 = .ok (.invokestatic 47, 3) := by decide +kernel
theorem djdk_42_method_149_code_48 : decode jdk_42_method_149_code 48 = .ok (.putfield 15, 3) := by decide +kernel
theorem djdk_42_method_149_code_51 : decode jdk_42_method_149_code 51 = .ok (.aload_n 0, 1) := by decide +kernel
theorem djdk_42_method_149_code_52 : decode jdk_42_method_149_code 52 = .ok (.aload 5, 2) := by decide +kernel
theorem djdk_42_method_149_code_54 : decode jdk_42_method_149_code 54 = .ok (.putfield 9, 3) := by decide +kernel
theorem djdk_42_method_149_code_57 : decode jdk_42_method_149_code 57 = .ok (.return_, 1) := by decide +kernel
theorem ef_rm2_1 (m_ : MethodId) (a : Addr) (u : Addr) : entryFrame m_ #[(.ref a), (.ref u), (.int (0 : Int32)), (.int (1 : Int32)), .null] 6 = mkF m_ 0 #[.val (.ref a), .val (.ref u), .val (.int (0 : Int32)), .val (.int (1 : Int32)), .val .null, .unset] [] := by first | (simp [entryFrame, mkF, argsToLocals, Value.category]; done) | rfl
theorem own_pn1 : plainName "java/lang/String" = true := by first | (simp [plainName, overriddenIn]; done) | decide +kernel
set_option maxRecDepth 65536 in
set_option maxHeartbeats 40000000 in
theorem rm2_1 (l : Launch) (Z : State) (a0 : Array Value) (hw : ∀ d ∈ tables_1, d.before a0 Z = true) (a : Addr) (u : Addr) (ku : ClassId) (cs : Int32) (c0 : Int32) (h0 : Heap) (n0 : Nat) (Z0 : n0 ≤ h0.size) (O : Old Z n0 h0) (S_CS : Sta Z Z.heap "java/lang/String" "COMPACT_STRINGS" "Z" (.int cs)) (hcs : ¬ cs = (0 : Int32)) (E_a : Exa Z h0 a "java/lang/String") (F_value_a : Fld Z h0 a "java/lang/String" "value" "[B" .null) (F_coder_a : Fld Z h0 a "java/lang/String" "coder" "B" (.int (0 : Int32))) (g_a : n0 ≤ a) (A_u : own_A Z h0 u ku .char 1 (fun x_ => .int (([c0] : List Int32).getD x_ 0))) (ne_u_a : u ≠ a) (hc0 : ¬ (255 : Int32) < c0) :
    own_Met l Z (⟨"java/lang/String", "<init>", "([CIILjava/lang/Void;)V"⟩ : MethodName) jdk_42_method_149_code 6 none ({ frames := 2, cells := 1, slots := 1, locals := 35 } : Room) #[(.ref a), (.ref u), (.int (0 : Int32)), (.int (1 : Int32)), .null] h0 (fun v h L => v = none ∧ Fr n0 L ∧ Keep h0 h [a]) := by
  refine own_body #[.val (.ref a), .val (.ref u), .val (.int (0 : Int32)), .val (.int (1 : Int32)), .val .null, .unset] (plainFor_of_name own_pn1) (fun m_ => ef_rm2_1 m_ a u) ?_
  intro p_ e_ s_ m_ below meth c_ s₁ X0 hx hby hml hret hlk hZ hown hnm e0
  have N0 := Fr.nil n0
  have KP := Keep.refl h0 [a]
  show own_Out p_ e_ below s_ _ _ _ s₁ (mkF m_ 0 #[.val (.ref a), .val (.ref u), .val (.int (0 : Int32)), .val (.int (1 : Int32)), .val .null, .unset] [])
  refine own_st s₁ (mkF m_ 1 #[.val (.ref a), .val (.ref u), .val (.int (0 : Int32)), .val (.int (1 : Int32)), .val .null, .unset] [(.ref a)]) (fun t_ k_ => ?_) ?_
  · refine XS.aloadN X0.here hx rfl (hb hby djdk_42_method_149_code_0) rfl rfl ?_
    show Steps p_.tables e_ below (s₁.setTop (mkF m_ 1 #[.val (.ref a), .val (.ref u), .val (.int (0 : Int32)), .val (.int (1 : Int32)), .val .null, .unset] [(.ref a)])) t_
    exact k_
  obtain ⟨T1, X1, e1, st1⟩ := initO X0 hx hZ hown (hw _ (List.mem_of_getElem? (i := 11) rfl)) (hw _ (List.mem_of_getElem? (i := 12) rfl)) (hw _ (List.mem_of_getElem? (i := 13) rfl)) e0 (g := (mkF m_ 1 #[.val (.ref a), .val (.ref u), .val (.int (0 : Int32)), .val (.int (1 : Int32)), .val .null, .unset] [(.ref a)])) rfl (by rw [hml]; rfl) rfl (hb hby djdk_42_method_149_code_1) (by decide) (W := 0) (by show 2 * 0 + _ ≤ _; exact Nat.le_of_eq rfl) (by decide)
  refine own_st T1 (mkF m_ 4 #[.val (.ref a), .val (.ref u), .val (.int (0 : Int32)), .val (.int (1 : Int32)), .val .null, .unset] []) st1 ?_
  refine own_st T1 (mkF m_ 27 #[.val (.ref a), .val (.ref u), .val (.int (0 : Int32)), .val (.int (1 : Int32)), .val .null, .unset] []) (fun t_ k_ => ?_) ?_
  · refine XS.iloadN X1.here hx rfl (hb hby djdk_42_method_149_code_4) rfl ?_
    show Steps p_.tables e_ below (T1.setTop (mkF m_ 5 #[.val (.ref a), .val (.ref u), .val (.int (0 : Int32)), .val (.int (1 : Int32)), .val .null, .unset] [(.int (1 : Int32))])) t_
    refine XS.ifYes X1.here hx rfl (pc0 := 5) (pc' := 27) rfl (hb hby djdk_42_method_149_code_5) rfl ((if0 _ _).trans (feq (by decide : ¬ ((1 : Int32) = (0 : Int32)))).2) (by decide) (by decide) ?_
    show Steps p_.tables e_ below (T1.setTop (mkF m_ 27 #[.val (.ref a), .val (.ref u), .val (.int (0 : Int32)), .val (.int (1 : Int32)), .val .null, .unset] [])) t_
    exact k_
  obtain ⟨T2, X2, e2, st2⟩ := getS2 X1 hx hZ hown (host := "") (Or.inl (hw _ (List.mem_of_getElem? (i := 14) rfl))) Via.refl e1 (S_CS.ext O.2) (g := (mkF m_ 27 #[.val (.ref a), .val (.ref u), .val (.int (0 : Int32)), .val (.int (1 : Int32)), .val .null, .unset] [])) rfl (hb hby djdk_42_method_149_code_27)
  refine own_st T2 (mkF m_ 30 #[.val (.ref a), .val (.ref u), .val (.int (0 : Int32)), .val (.int (1 : Int32)), .val .null, .unset] [(.int cs)]) st2 ?_
  refine own_st T2 (mkF m_ 36 #[.val (.ref a), .val (.ref u), .val (.int (0 : Int32)), .val (.int (1 : Int32)), .val .null, .unset] [(.int (1 : Int32)), (.int (0 : Int32)), (.ref u)]) (fun t_ k_ => ?_) ?_
  · refine XS.ifNo X2.here hx rfl (hb hby djdk_42_method_149_code_30) rfl ((if0 _ _).trans (feq (hcs : ¬ (cs = (0 : Int32)))).1) ?_
    show Steps p_.tables e_ below (T2.setTop (mkF m_ 33 #[.val (.ref a), .val (.ref u), .val (.int (0 : Int32)), .val (.int (1 : Int32)), .val .null, .unset] [])) t_
    refine XS.aloadN X2.here hx rfl (hb hby djdk_42_method_149_code_33) rfl rfl ?_
    show Steps p_.tables e_ below (T2.setTop (mkF m_ 34 #[.val (.ref a), .val (.ref u), .val (.int (0 : Int32)), .val (.int (1 : Int32)), .val .null, .unset] [(.ref u)])) t_
    refine XS.iloadN X2.here hx rfl (hb hby djdk_42_method_149_code_34) rfl ?_
    show Steps p_.tables e_ below (T2.setTop (mkF m_ 35 #[.val (.ref a), .val (.ref u), .val (.int (0 : Int32)), .val (.int (1 : Int32)), .val .null, .unset] [(.int (0 : Int32)), (.ref u)])) t_
    refine XS.iloadN X2.here hx rfl (hb hby djdk_42_method_149_code_35) rfl ?_
    show Steps p_.tables e_ below (T2.setTop (mkF m_ 36 #[.val (.ref a), .val (.ref u), .val (.int (0 : Int32)), .val (.int (1 : Int32)), .val .null, .unset] [(.int (1 : Int32)), (.int (0 : Int32)), (.ref u)])) t_
    exact k_
  refine own_callS X2 hx hZ hown (hw _ (List.mem_of_getElem? (i := 15) rfl)) (hw _ (List.mem_of_getElem? (i := 16) rfl)) (hw _ (List.mem_of_getElem? (i := 17) rfl)) (hw _ (List.mem_of_getElem? (i := 18) rfl)) (by decide) [(.ref u), (.int (0 : Int32)), (.int (1 : Int32))] [] (rm4_1 l Z a0 hw u ku c0 h0 n0 Z0 A_u hc0) 0 (by decide) (by decide) e2 (by rw [hml]; rfl) (lenOf own_pd1 rfl) rfl (Nat.le_of_eq rfl) (hb hby djdk_42_method_149_code_36) (by decide) (by decide) ?_
  intro v3 T3 L3 X3 q3
  obtain ⟨d3, kd3, rfl, g_d3, sz3, N3q, K3, A_d3⟩ := q3
  have N3 := Fr.app N0 N3q
  have ne_a_d3 : a ≠ d3 := Nat.ne_of_lt (Nat.lt_of_lt_of_le E_a.lt sz3)
  have ne_u_d3 : u ≠ d3 := Nat.ne_of_lt (Nat.lt_of_lt_of_le A_u.lt sz3)
  replace KP := KP.trans K3 all0
  replace O := O.keep K3 all0
  replace E_a := E_a.keep K3
  replace F_value_a := F_value_a.keep K3 nin0
  replace F_coder_a := F_coder_a.keep K3 nin0
  replace A_u := A_u.keep K3 nin0
  replace Z0 : n0 ≤ T3.heap.size := Nat.le_trans Z0 K3.1
  show own_Out p_ e_ below _ _ _ _ T3 (mkF m_ 39 #[.val (.ref a), .val (.ref u), .val (.int (0 : Int32)), .val (.int (1 : Int32)), .val .null, .unset] [(.ref d3)])
  refine own_st T3 (mkF m_ 45 #[.val (.ref a), .val (.ref u), .val (.int (0 : Int32)), .val (.int (1 : Int32)), .val .null, .val (.ref d3)] [(.int (1 : Int32)), (.ref d3), (.ref a)]) (fun t_ k_ => ?_) ?_
  · refine XS.astore X3.here hx rfl (hb hby djdk_42_method_149_code_39) rfl rfl (l' := #[.val (.ref a), .val (.ref u), .val (.int (0 : Int32)), .val (.int (1 : Int32)), .val .null, .val (.ref d3)]) rfl ?_
    show Steps p_.tables e_ below (T3.setTop (mkF m_ 41 #[.val (.ref a), .val (.ref u), .val (.int (0 : Int32)), .val (.int (1 : Int32)), .val .null, .val (.ref d3)] [])) t_
    refine XS.aloadN X3.here hx rfl (hb hby djdk_42_method_149_code_41) rfl rfl ?_
    show Steps p_.tables e_ below (T3.setTop (mkF m_ 42 #[.val (.ref a), .val (.ref u), .val (.int (0 : Int32)), .val (.int (1 : Int32)), .val .null, .val (.ref d3)] [(.ref a)])) t_
    refine XS.aload X3.here hx rfl (hb hby djdk_42_method_149_code_42) rfl rfl ?_
    show Steps p_.tables e_ below (T3.setTop (mkF m_ 44 #[.val (.ref a), .val (.ref u), .val (.int (0 : Int32)), .val (.int (1 : Int32)), .val .null, .val (.ref d3)] [(.ref d3), (.ref a)])) t_
    refine XS.iloadN X3.here hx rfl (hb hby djdk_42_method_149_code_44) rfl ?_
    show Steps p_.tables e_ below (T3.setTop (mkF m_ 45 #[.val (.ref a), .val (.ref u), .val (.int (0 : Int32)), .val (.int (1 : Int32)), .val .null, .val (.ref d3)] [(.int (1 : Int32)), (.ref d3), (.ref a)])) t_
    exact k_
  refine own_callS X3 hx hZ hown (hw _ (List.mem_of_getElem? (i := 23) rfl)) (hw _ (List.mem_of_getElem? (i := 24) rfl)) (hw _ (List.mem_of_getElem? (i := 17) rfl)) (hw _ (List.mem_of_getElem? (i := 25) rfl)) (by decide) [(.ref d3), (.int (1 : Int32))] [(.ref a)] (rm6_1 l Z a0 hw d3 kd3 c0 T3.heap n0 Z0 A_d3) 1 (by decide) (by decide) rfl (by rw [hml]; rfl) (lenOf own_pd2 rfl) rfl (Nat.le_of_eq rfl) (hb hby djdk_42_method_149_code_45) (by decide) (by decide) ?_
  intro v4 T4 L4 X4 q4
  obtain ⟨rfl, N4q, e4⟩ := q4
  have N4 := Fr.app N3 N4q
  show own_Out p_ e_ below _ _ _ _ T4 (mkF m_ 48 #[.val (.ref a), .val (.ref u), .val (.int (0 : Int32)), .val (.int (1 : Int32)), .val .null, .val (.ref d3)] [(.int (0 : Int32)), (.ref a)])
  obtain ⟨T5, h5, X5, e5, W5, st5⟩ := putFN X4 hx hZ hown (hw _ (List.mem_of_getElem? (i := 26) rfl)) Via.refl e4 F_coder_a E_a (Or.inr ⟨(hw _ (List.mem_of_getElem? (i := 27) rfl)), rfl, hnm⟩) (hw _ (List.mem_of_getElem? (i := 2) rfl)) (ty := .byte) (v' := (.int (0 : Int32))) (by decide) rfl rfl (g := (mkF m_ 48 #[.val (.ref a), .val (.ref u), .val (.int (0 : Int32)), .val (.int (1 : Int32)), .val .null, .val (.ref d3)] [(.int (0 : Int32)), (.ref a)])) rfl rfl (hb hby djdk_42_method_149_code_48)
  have N5 := Fr.snoc X5 N4 g_a
  replace Z0 : n0 ≤ h5.size := W5.size ▸ Z0
  replace KP := KP.wr W5 (Or.inl (List.mem_of_getElem? (i := 0) rfl))
  replace O := O.wr W5 g_a
  replace E_a := E_a.wr W5
  replace F_value_a := F_value_a.other W5 (Or.inr (slot_ne (Or.inr (hw _ (List.mem_of_getElem? (i := 29) rfl))) (Or.inr (hw _ (List.mem_of_getElem? (i := 27) rfl))) (by decide) (t := (.array .byte)) (t' := .byte) (by decide) (by decide)))
  replace A_u := A_u.other W5 ne_u_a
  replace A_d3 := A_d3.other W5 (Ne.symm ne_a_d3)
  replace F_coder_a := F_coder_a.same W5
  refine own_st T5 (mkF m_ 51 #[.val (.ref a), .val (.ref u), .val (.int (0 : Int32)), .val (.int (1 : Int32)), .val .null, .val (.ref d3)] []) st5 ?_
  refine own_st T5 (mkF m_ 54 #[.val (.ref a), .val (.ref u), .val (.int (0 : Int32)), .val (.int (1 : Int32)), .val .null, .val (.ref d3)] [(.ref d3), (.ref a)]) (fun t_ k_ => ?_) ?_
  · refine XS.aloadN X5.here hx rfl (hb hby djdk_42_method_149_code_51) rfl rfl ?_
    show Steps p_.tables e_ below (T5.setTop (mkF m_ 52 #[.val (.ref a), .val (.ref u), .val (.int (0 : Int32)), .val (.int (1 : Int32)), .val .null, .val (.ref d3)] [(.ref a)])) t_
    refine XS.aload X5.here hx rfl (hb hby djdk_42_method_149_code_52) rfl rfl ?_
    show Steps p_.tables e_ below (T5.setTop (mkF m_ 54 #[.val (.ref a), .val (.ref u), .val (.int (0 : Int32)), .val (.int (1 : Int32)), .val .null, .val (.ref d3)] [(.ref d3), (.ref a)])) t_
    exact k_
  obtain ⟨T6, h6, X6, e6, W6, st6⟩ := putF X5 hx hZ hown (host := "") (Or.inl (hw _ (List.mem_of_getElem? (i := 28) rfl))) Via.refl e5 F_value_a E_a (Or.inr ⟨(hw _ (List.mem_of_getElem? (i := 29) rfl)), rfl, hnm⟩) (hw _ (List.mem_of_getElem? (i := 2) rfl)) (ty := (.array .byte)) (by decide) rfl rfl (g := (mkF m_ 54 #[.val (.ref a), .val (.ref u), .val (.int (0 : Int32)), .val (.int (1 : Int32)), .val .null, .val (.ref d3)] [(.ref d3), (.ref a)])) rfl rfl (hb hby djdk_42_method_149_code_54)
  have N6 := Fr.snoc X6 N5 g_a
  replace Z0 : n0 ≤ h6.size := W6.size ▸ Z0
  replace KP := KP.wr W6 (Or.inl (List.mem_of_getElem? (i := 0) rfl))
  replace O := O.wr W6 g_a
  replace E_a := E_a.wr W6
  replace F_coder_a := F_coder_a.other W6 (Or.inr (slot_ne (Or.inr (hw _ (List.mem_of_getElem? (i := 27) rfl))) (Or.inr (hw _ (List.mem_of_getElem? (i := 29) rfl))) (by decide) (t := .byte) (t' := (.array .byte)) (by decide) (by decide)))
  replace A_u := A_u.other W6 ne_u_a
  replace A_d3 := A_d3.other W6 (Ne.symm ne_a_d3)
  replace F_value_a := F_value_a.same W6
  refine own_st T6 (mkF m_ 57 #[.val (.ref a), .val (.ref u), .val (.int (0 : Int32)), .val (.int (1 : Int32)), .val .null, .val (.ref d3)] []) st6 ?_
  refine own_ret0 X6 hx hlk hret (hb hby djdk_42_method_149_code_57) (by decide) (by decide) ?_
  rw [e6]
  exact ⟨rfl, N6, KP⟩
theorem djdk_42_method_3_code_0 : decode jdk_42_method_3_code 0 = .ok (.aload_n 0, 1) := by decide +kernel
theorem djdk_42_method_3_code_1 : decode jdk_42_method_3_code 1 = .ok (.aload_n 1, 1) := by decide +kernel
theorem djdk_42_method_3_code_2 : decode jdk_42_method_3_code 2 = .ok (.iconst 0, 1) := by decide +kernel
theorem djdk_42_method_3_code_3 : decode jdk_42_method_3_code 3 = .ok (.aload_n 1, 1) := by decide +kernel
theorem djdk_42_method_3_code_4 : decode jdk_42_method_3_code 4 = .ok (.arraylength, 1) := by decide +kernel
theorem djdk_42_method_3_code_5 : decode jdk_42_method_3_code 5 = .ok (.aconst_null, 1) := by decide +kernel
theorem own_pd3 : parseMethodDescriptor "([CIILjava/lang/Void;)V" = some ⟨[(.array .char), .int, .int, (.object "java/lang/Void")], none⟩ := by decide +kernel
theorem djdk_42_method_3_code_6 : decode jdk_42_method_3_code 6 = .ok (.invokespecial 27, 3) := by decide +kernel
theorem djdk_42_method_3_code_9 : decode jdk_42_method_3_code 9 = .ok (.return_, 1) := by decide +kernel
theorem ef_rm1_1 (m_ : MethodId) (a : Addr) (u : Addr) : entryFrame m_ #[(.ref a), (.ref u)] 2 = mkF m_ 0 #[.val (.ref a), .val (.ref u)] [] := by first | (simp [entryFrame, mkF, argsToLocals, Value.category]; done) | rfl
set_option maxRecDepth 65536 in
set_option maxHeartbeats 40000000 in
theorem rm1_1 (l : Launch) (Z : State) (a0 : Array Value) (hw : ∀ d ∈ tables_1, d.before a0 Z = true) (a : Addr) (u : Addr) (ku : ClassId) (cs : Int32) (c0 : Int32) (h0 : Heap) (n0 : Nat) (Z0 : n0 ≤ h0.size) (O : Old Z n0 h0) (S_CS : Sta Z Z.heap "java/lang/String" "COMPACT_STRINGS" "Z" (.int cs)) (hcs : ¬ cs = (0 : Int32)) (E_a : Exa Z h0 a "java/lang/String") (F_value_a : Fld Z h0 a "java/lang/String" "value" "[B" .null) (F_coder_a : Fld Z h0 a "java/lang/String" "coder" "B" (.int (0 : Int32))) (g_a : n0 ≤ a) (A_u : own_A Z h0 u ku .char 1 (fun x_ => .int (([c0] : List Int32).getD x_ 0))) (ne_u_a : u ≠ a) (hc0 : ¬ (255 : Int32) < c0) :
    own_Met l Z (⟨"java/lang/String", "<init>", "([C)V"⟩ : MethodName) jdk_42_method_3_code 2 none ({ frames := 3, cells := 1, slots := 1, locals := 52 } : Room) #[(.ref a), (.ref u)] h0 (fun v h L => v = none ∧ Fr n0 L ∧ Keep h0 h [a]) := by
  refine own_body #[.val (.ref a), .val (.ref u)] (plainFor_of_name own_pn1) (fun m_ => ef_rm1_1 m_ a u) ?_
  intro p_ e_ s_ m_ below meth c_ s₁ X0 hx hby hml hret hlk hZ hown hnm e0
  have N0 := Fr.nil n0
  have KP := Keep.refl h0 [a]
  show own_Out p_ e_ below s_ _ _ _ s₁ (mkF m_ 0 #[.val (.ref a), .val (.ref u)] [])
  refine own_st s₁ (mkF m_ 6 #[.val (.ref a), .val (.ref u)] [.null, (.int (1 : Int32)), (.int (0 : Int32)), (.ref u), (.ref a)]) (fun t_ k_ => ?_) ?_
  · refine XS.aloadN X0.here hx rfl (hb hby djdk_42_method_3_code_0) rfl rfl ?_
    show Steps p_.tables e_ below (s₁.setTop (mkF m_ 1 #[.val (.ref a), .val (.ref u)] [(.ref a)])) t_
    refine XS.aloadN X0.here hx rfl (hb hby djdk_42_method_3_code_1) rfl rfl ?_
    show Steps p_.tables e_ below (s₁.setTop (mkF m_ 2 #[.val (.ref a), .val (.ref u)] [(.ref u), (.ref a)])) t_
    refine XS.iconst X0.here hx rfl (hb hby djdk_42_method_3_code_2) ?_
    show Steps p_.tables e_ below (s₁.setTop (mkF m_ 3 #[.val (.ref a), .val (.ref u)] [(.int (0 : Int32)), (.ref u), (.ref a)])) t_
    refine XS.aloadN X0.here hx rfl (hb hby djdk_42_method_3_code_3) rfl rfl ?_
    show Steps p_.tables e_ below (s₁.setTop (mkF m_ 4 #[.val (.ref a), .val (.ref u)] [(.ref u), (.int (0 : Int32)), (.ref u), (.ref a)])) t_
    refine own_len X0 hx hZ e0 A_u (hb hby djdk_42_method_3_code_4) (1 : Int32) (by decide) _ ?_
    show Steps p_.tables e_ below (s₁.setTop (mkF m_ 5 #[.val (.ref a), .val (.ref u)] [(.int (1 : Int32)), (.int (0 : Int32)), (.ref u), (.ref a)])) t_
    refine XS.aconstNull X0.here hx rfl (hb hby djdk_42_method_3_code_5) ?_
    show Steps p_.tables e_ below (s₁.setTop (mkF m_ 6 #[.val (.ref a), .val (.ref u)] [.null, (.int (1 : Int32)), (.int (0 : Int32)), (.ref u), (.ref a)])) t_
    exact k_
  refine own_callC X0 hx hZ rfl hown (hw _ (List.mem_of_getElem? (i := 7) rfl)) (hw _ (List.mem_of_getElem? (i := 8) rfl)) (hw _ (List.mem_of_getElem? (i := 3) rfl)) (hw _ (List.mem_of_getElem? (i := 10) rfl)) (by decide) a [(.ref u), (.int (0 : Int32)), (.int (1 : Int32)), .null] [] (rm2_1 l Z a0 hw a u ku cs c0 h0 n0 Z0 O S_CS hcs E_a F_value_a F_coder_a g_a A_u ne_u_a hc0) 0 (by decide) (by decide) e0 (by rw [hml]; rfl) (lenOf own_pd3 rfl) rfl (Nat.le_of_eq rfl) (hb hby djdk_42_method_3_code_6) (by decide) (by decide) ?_
  intro v1 T1 L1 X1 q1
  obtain ⟨rfl, N1q, K1⟩ := q1
  have N1 := Fr.app N0 N1q
  replace KP := KP.trans K1 (allS (Or.inl (List.mem_of_getElem? (i := 0) rfl)) all0)
  replace O := O.keep K1 (allS g_a all0)
  replace E_a := E_a.keep K1
  -- F_value_a is dropped: written by the callee
  -- F_coder_a is dropped: written by the callee
  replace A_u := A_u.keep K1 (ninS ne_u_a nin0)
  replace Z0 : n0 ≤ T1.heap.size := Nat.le_trans Z0 K1.1
  show own_Out p_ e_ below _ _ _ _ T1 (mkF m_ 9 #[.val (.ref a), .val (.ref u)] [])
  refine own_ret0 X1 hx hlk hret (hb hby djdk_42_method_3_code_9) (by decide) (by decide) ?_
  exact ⟨rfl, N1, KP⟩
theorem ef_rm5_2 (m_ : MethodId) (a : Addr) (d : Addr) : entryFrame m_ #[(.ref a), (.int (0 : Int32)), (.ref d), (.int (0 : Int32)), (.int (2 : Int32))] 7 = mkF m_ 0 #[.val (.ref a), .val (.int (0 : Int32)), .val (.ref d), .val (.int (0 : Int32)), .val (.int (2 : Int32)), .unset, .unset] [] := by first | (simp [entryFrame, mkF, argsToLocals, Value.category]; done) | rfl
set_option maxRecDepth 65536 in
set_option maxHeartbeats 40000000 in
theorem rm5_2 (l : Launch) (Z : State) (a0 : Array Value) (hw : ∀ d ∈ tables_1, d.before a0 Z = true) (a : Addr) (d : Addr) (ka kd : ClassId) (c0 c1 : Int32) (h0 : Heap) (n0 : Nat) (Z0 : n0 ≤ h0.size) (A_a : own_A Z h0 a ka .char 2 (fun x_ => .int (([c0, c1] : List Int32).getD x_ 0))) (A_d : own_A Z h0 d kd .byte 2 (fun x_ => .int (([(0 : Int32), (0 : Int32)] : List Int32).getD x_ 0))) (ne_a_d : a ≠ d) (g_d : n0 ≤ d) (hc0 : ¬ (255 : Int32) < c0) (hc1 : ¬ (255 : Int32) < c1) :
    own_Met l Z (⟨"java/lang/StringUTF16", "compress", "([CI[BII)I"⟩ : MethodName) jdk_52_method_21_code 7 (some .int) ({ frames := 0, cells := 0, slots := 0, locals := 0 } : Room) #[(.ref a), (.int (0 : Int32)), (.ref d), (.int (0 : Int32)), (.int (2 : Int32))] h0 (fun v h L => v = some (.int (2 : Int32)) ∧ Fr n0 L ∧ Keep h0 h [d] ∧ own_A Z h d kd .byte 2 (fun x_ => .int (([(c0.toInt8.toInt32), (c1.toInt8.toInt32)] : List Int32).getD x_ 0))) := by
  refine own_body #[.val (.ref a), .val (.int (0 : Int32)), .val (.ref d), .val (.int (0 : Int32)), .val (.int (2 : Int32)), .unset, .unset] (plainFor_of_name own_pn0) (fun m_ => ef_rm5_2 m_ a d) ?_
  intro p_ e_ s_ m_ below meth c_ s₁ X0 hx hby hml hret hlk hZ hown hnm e0
  have N0 := Fr.nil n0
  have KP := Keep.refl h0 [d]
  show own_Out p_ e_ below s_ _ _ _ s₁ (mkF m_ 0 #[.val (.ref a), .val (.int (0 : Int32)), .val (.ref d), .val (.int (0 : Int32)), .val (.int (2 : Int32)), .unset, .unset] [])
  refine own_st s₁ (mkF m_ 31 #[.val (.ref a), .val (.int (0 : Int32)), .val (.ref d), .val (.int (0 : Int32)), .val (.int (2 : Int32)), .val (.int (0 : Int32)), .val (.int c0)] [(.int (c0.toInt8.toInt32)), (.int (0 : Int32)), (.ref d)]) (fun t_ k_ => ?_) ?_
  · refine XS.iconst X0.here hx rfl (hb hby djdk_52_method_21_code_0) ?_
    show Steps p_.tables e_ below (s₁.setTop (mkF m_ 1 #[.val (.ref a), .val (.int (0 : Int32)), .val (.ref d), .val (.int (0 : Int32)), .val (.int (2 : Int32)), .unset, .unset] [(.int (0 : Int32))])) t_
    refine XS.istore X0.here hx rfl (hb hby djdk_52_method_21_code_1) rfl (l' := #[.val (.ref a), .val (.int (0 : Int32)), .val (.ref d), .val (.int (0 : Int32)), .val (.int (2 : Int32)), .val (.int (0 : Int32)), .unset]) rfl ?_
    show Steps p_.tables e_ below (s₁.setTop (mkF m_ 3 #[.val (.ref a), .val (.int (0 : Int32)), .val (.ref d), .val (.int (0 : Int32)), .val (.int (2 : Int32)), .val (.int (0 : Int32)), .unset] [])) t_
    refine XS.iload X0.here hx rfl (hb hby djdk_52_method_21_code_3) rfl ?_
    show Steps p_.tables e_ below (s₁.setTop (mkF m_ 5 #[.val (.ref a), .val (.int (0 : Int32)), .val (.ref d), .val (.int (0 : Int32)), .val (.int (2 : Int32)), .val (.int (0 : Int32)), .unset] [(.int (0 : Int32))])) t_
    refine XS.iload X0.here hx rfl (hb hby djdk_52_method_21_code_5) rfl ?_
    show Steps p_.tables e_ below (s₁.setTop (mkF m_ 7 #[.val (.ref a), .val (.int (0 : Int32)), .val (.ref d), .val (.int (0 : Int32)), .val (.int (2 : Int32)), .val (.int (0 : Int32)), .unset] [(.int (2 : Int32)), (.int (0 : Int32))])) t_
    refine XS.icmpNo X0.here hx rfl (hb hby djdk_52_method_21_code_7) rfl (tlt (by decide : (0 : Int32) < (2 : Int32))).2.1 ?_
    show Steps p_.tables e_ below (s₁.setTop (mkF m_ 10 #[.val (.ref a), .val (.int (0 : Int32)), .val (.ref d), .val (.int (0 : Int32)), .val (.int (2 : Int32)), .val (.int (0 : Int32)), .unset] [])) t_
    refine XS.aloadN X0.here hx rfl (hb hby djdk_52_method_21_code_10) rfl rfl ?_
    show Steps p_.tables e_ below (s₁.setTop (mkF m_ 11 #[.val (.ref a), .val (.int (0 : Int32)), .val (.ref d), .val (.int (0 : Int32)), .val (.int (2 : Int32)), .val (.int (0 : Int32)), .unset] [(.ref a)])) t_
    refine XS.iloadN X0.here hx rfl (hb hby djdk_52_method_21_code_11) rfl ?_
    show Steps p_.tables e_ below (s₁.setTop (mkF m_ 12 #[.val (.ref a), .val (.int (0 : Int32)), .val (.ref d), .val (.int (0 : Int32)), .val (.int (2 : Int32)), .val (.int (0 : Int32)), .unset] [(.int (0 : Int32)), (.ref a)])) t_
    refine own_ldC X0 hx hZ e0 A_a 0 (by decide) (by decide) (hb hby djdk_52_method_21_code_12) _ ?_
    show Steps p_.tables e_ below (s₁.setTop (mkF m_ 13 #[.val (.ref a), .val (.int (0 : Int32)), .val (.ref d), .val (.int (0 : Int32)), .val (.int (2 : Int32)), .val (.int (0 : Int32)), .unset] [(.int c0)])) t_
    refine XS.istore X0.here hx rfl (hb hby djdk_52_method_21_code_13) rfl (l' := #[.val (.ref a), .val (.int (0 : Int32)), .val (.ref d), .val (.int (0 : Int32)), .val (.int (2 : Int32)), .val (.int (0 : Int32)), .val (.int c0)]) rfl ?_
    show Steps p_.tables e_ below (s₁.setTop (mkF m_ 15 #[.val (.ref a), .val (.int (0 : Int32)), .val (.ref d), .val (.int (0 : Int32)), .val (.int (2 : Int32)), .val (.int (0 : Int32)), .val (.int c0)] [])) t_
    refine XS.iload X0.here hx rfl (hb hby djdk_52_method_21_code_15) rfl ?_
    show Steps p_.tables e_ below (s₁.setTop (mkF m_ 17 #[.val (.ref a), .val (.int (0 : Int32)), .val (.ref d), .val (.int (0 : Int32)), .val (.int (2 : Int32)), .val (.int (0 : Int32)), .val (.int c0)] [(.int c0)])) t_
    refine XS.sipush X0.here hx rfl (hb hby djdk_52_method_21_code_17) ?_
    show Steps p_.tables e_ below (s₁.setTop (mkF m_ 20 #[.val (.ref a), .val (.int (0 : Int32)), .val (.ref d), .val (.int (0 : Int32)), .val (.int (2 : Int32)), .val (.int (0 : Int32)), .val (.int c0)] [(.int (255 : Int32)), (.int c0)])) t_
    refine XS.icmpYes X0.here hx rfl (pc0 := 20) (pc' := 26) rfl (hb hby djdk_52_method_21_code_20) rfl (flt (hc0 : ¬ ((255 : Int32) < c0))).2.2.2 (by decide) (by decide) ?_
    show Steps p_.tables e_ below (s₁.setTop (mkF m_ 26 #[.val (.ref a), .val (.int (0 : Int32)), .val (.ref d), .val (.int (0 : Int32)), .val (.int (2 : Int32)), .val (.int (0 : Int32)), .val (.int c0)] [])) t_
    refine XS.aloadN X0.here hx rfl (hb hby djdk_52_method_21_code_26) rfl rfl ?_
    show Steps p_.tables e_ below (s₁.setTop (mkF m_ 27 #[.val (.ref a), .val (.int (0 : Int32)), .val (.ref d), .val (.int (0 : Int32)), .val (.int (2 : Int32)), .val (.int (0 : Int32)), .val (.int c0)] [(.ref d)])) t_
    refine XS.iloadN X0.here hx rfl (hb hby djdk_52_method_21_code_27) rfl ?_
    show Steps p_.tables e_ below (s₁.setTop (mkF m_ 28 #[.val (.ref a), .val (.int (0 : Int32)), .val (.ref d), .val (.int (0 : Int32)), .val (.int (2 : Int32)), .val (.int (0 : Int32)), .val (.int c0)] [(.int (0 : Int32)), (.ref d)])) t_
    refine XS.iload X0.here hx rfl (hb hby djdk_52_method_21_code_28) rfl ?_
    show Steps p_.tables e_ below (s₁.setTop (mkF m_ 30 #[.val (.ref a), .val (.int (0 : Int32)), .val (.ref d), .val (.int (0 : Int32)), .val (.int (2 : Int32)), .val (.int (0 : Int32)), .val (.int c0)] [(.int c0), (.int (0 : Int32)), (.ref d)])) t_
    refine XS.i2b X0.here hx rfl (hb hby djdk_52_method_21_code_30) rfl ?_
    show Steps p_.tables e_ below (s₁.setTop (mkF m_ 31 #[.val (.ref a), .val (.int (0 : Int32)), .val (.ref d), .val (.int (0 : Int32)), .val (.int (2 : Int32)), .val (.int (0 : Int32)), .val (.int c0)] [(.int (c0.toInt8.toInt32)), (.int (0 : Int32)), (.ref d)])) t_
    exact k_
  obtain ⟨T1, h1, X1, e1, W1, st1⟩ := own_stB X0 hx hZ e0 A_d (c0.toInt8.toInt32) (own_nb _) 0 (by decide) (by decide) (j := (0 : Int32)) (x := (c0.toInt8.toInt32)) (Ls := #[.val (.ref a), .val (.int (0 : Int32)), .val (.ref d), .val (.int (0 : Int32)), .val (.int (2 : Int32)), .val (.int (0 : Int32)), .val (.int c0)]) (rest := []) (hb hby djdk_52_method_21_code_31)
  have N1 := Fr.snoc X1 N0 g_d
  replace Z0 : n0 ≤ h1.size := W1.size ▸ Z0
  replace KP := KP.wr W1 (Or.inl (List.mem_of_getElem? (i := 0) rfl))
  replace A_a := A_a.other W1 ne_a_d
  replace A_d : own_A Z h1 d kd .byte 2 (fun x_ => .int (([(c0.toInt8.toInt32), (0 : Int32)] : List Int32).getD x_ 0)) := A_d.setLI (by decide) (Nat.le_of_ble_eq_true rfl) W1
  refine own_st T1 (mkF m_ 32 #[.val (.ref a), .val (.int (0 : Int32)), .val (.ref d), .val (.int (0 : Int32)), .val (.int (2 : Int32)), .val (.int (0 : Int32)), .val (.int c0)] []) st1 ?_
  refine own_st T1 (mkF m_ 31 #[.val (.ref a), .val (.int (1 : Int32)), .val (.ref d), .val (.int (1 : Int32)), .val (.int (2 : Int32)), .val (.int (1 : Int32)), .val (.int c1)] [(.int (c1.toInt8.toInt32)), (.int (1 : Int32)), (.ref d)]) (fun t_ k_ => ?_) ?_
  · refine XS.iinc X1.here hx rfl (hb hby djdk_52_method_21_code_32) rfl (l' := #[.val (.ref a), .val (.int (1 : Int32)), .val (.ref d), .val (.int (0 : Int32)), .val (.int (2 : Int32)), .val (.int (0 : Int32)), .val (.int c0)]) rfl ?_
    show Steps p_.tables e_ below (T1.setTop (mkF m_ 35 #[.val (.ref a), .val (.int (1 : Int32)), .val (.ref d), .val (.int (0 : Int32)), .val (.int (2 : Int32)), .val (.int (0 : Int32)), .val (.int c0)] [])) t_
    refine XS.iinc X1.here hx rfl (hb hby djdk_52_method_21_code_35) rfl (l' := #[.val (.ref a), .val (.int (1 : Int32)), .val (.ref d), .val (.int (1 : Int32)), .val (.int (2 : Int32)), .val (.int (0 : Int32)), .val (.int c0)]) rfl ?_
    show Steps p_.tables e_ below (T1.setTop (mkF m_ 38 #[.val (.ref a), .val (.int (1 : Int32)), .val (.ref d), .val (.int (1 : Int32)), .val (.int (2 : Int32)), .val (.int (0 : Int32)), .val (.int c0)] [])) t_
    refine XS.iinc X1.here hx rfl (hb hby djdk_52_method_21_code_38) rfl (l' := #[.val (.ref a), .val (.int (1 : Int32)), .val (.ref d), .val (.int (1 : Int32)), .val (.int (2 : Int32)), .val (.int (1 : Int32)), .val (.int c0)]) rfl ?_
    show Steps p_.tables e_ below (T1.setTop (mkF m_ 41 #[.val (.ref a), .val (.int (1 : Int32)), .val (.ref d), .val (.int (1 : Int32)), .val (.int (2 : Int32)), .val (.int (1 : Int32)), .val (.int c0)] [])) t_
    refine XS.goto X1.here hx rfl (pc0 := 41) (pc' := 3) rfl (hb hby djdk_52_method_21_code_41) (by decide) (by decide) ?_
    show Steps p_.tables e_ below (T1.setTop (mkF m_ 3 #[.val (.ref a), .val (.int (1 : Int32)), .val (.ref d), .val (.int (1 : Int32)), .val (.int (2 : Int32)), .val (.int (1 : Int32)), .val (.int c0)] [])) t_
    refine XS.iload X1.here hx rfl (hb hby djdk_52_method_21_code_3) rfl ?_
    show Steps p_.tables e_ below (T1.setTop (mkF m_ 5 #[.val (.ref a), .val (.int (1 : Int32)), .val (.ref d), .val (.int (1 : Int32)), .val (.int (2 : Int32)), .val (.int (1 : Int32)), .val (.int c0)] [(.int (1 : Int32))])) t_
    refine XS.iload X1.here hx rfl (hb hby djdk_52_method_21_code_5) rfl ?_
    show Steps p_.tables e_ below (T1.setTop (mkF m_ 7 #[.val (.ref a), .val (.int (1 : Int32)), .val (.ref d), .val (.int (1 : Int32)), .val (.int (2 : Int32)), .val (.int (1 : Int32)), .val (.int c0)] [(.int (2 : Int32)), (.int (1 : Int32))])) t_
    refine XS.icmpNo X1.here hx rfl (hb hby djdk_52_method_21_code_7) rfl (tlt (by decide : (1 : Int32) < (2 : Int32))).2.1 ?_
    show Steps p_.tables e_ below (T1.setTop (mkF m_ 10 #[.val (.ref a), .val (.int (1 : Int32)), .val (.ref d), .val (.int (1 : Int32)), .val (.int (2 : Int32)), .val (.int (1 : Int32)), .val (.int c0)] [])) t_
    refine XS.aloadN X1.here hx rfl (hb hby djdk_52_method_21_code_10) rfl rfl ?_
    show Steps p_.tables e_ below (T1.setTop (mkF m_ 11 #[.val (.ref a), .val (.int (1 : Int32)), .val (.ref d), .val (.int (1 : Int32)), .val (.int (2 : Int32)), .val (.int (1 : Int32)), .val (.int c0)] [(.ref a)])) t_
    refine XS.iloadN X1.here hx rfl (hb hby djdk_52_method_21_code_11) rfl ?_
    show Steps p_.tables e_ below (T1.setTop (mkF m_ 12 #[.val (.ref a), .val (.int (1 : Int32)), .val (.ref d), .val (.int (1 : Int32)), .val (.int (2 : Int32)), .val (.int (1 : Int32)), .val (.int c0)] [(.int (1 : Int32)), (.ref a)])) t_
    refine own_ldC X1 hx hZ e1 A_a 1 (by decide) (by decide) (hb hby djdk_52_method_21_code_12) _ ?_
    show Steps p_.tables e_ below (T1.setTop (mkF m_ 13 #[.val (.ref a), .val (.int (1 : Int32)), .val (.ref d), .val (.int (1 : Int32)), .val (.int (2 : Int32)), .val (.int (1 : Int32)), .val (.int c0)] [(.int c1)])) t_
    refine XS.istore X1.here hx rfl (hb hby djdk_52_method_21_code_13) rfl (l' := #[.val (.ref a), .val (.int (1 : Int32)), .val (.ref d), .val (.int (1 : Int32)), .val (.int (2 : Int32)), .val (.int (1 : Int32)), .val (.int c1)]) rfl ?_
    show Steps p_.tables e_ below (T1.setTop (mkF m_ 15 #[.val (.ref a), .val (.int (1 : Int32)), .val (.ref d), .val (.int (1 : Int32)), .val (.int (2 : Int32)), .val (.int (1 : Int32)), .val (.int c1)] [])) t_
    refine XS.iload X1.here hx rfl (hb hby djdk_52_method_21_code_15) rfl ?_
    show Steps p_.tables e_ below (T1.setTop (mkF m_ 17 #[.val (.ref a), .val (.int (1 : Int32)), .val (.ref d), .val (.int (1 : Int32)), .val (.int (2 : Int32)), .val (.int (1 : Int32)), .val (.int c1)] [(.int c1)])) t_
    refine XS.sipush X1.here hx rfl (hb hby djdk_52_method_21_code_17) ?_
    show Steps p_.tables e_ below (T1.setTop (mkF m_ 20 #[.val (.ref a), .val (.int (1 : Int32)), .val (.ref d), .val (.int (1 : Int32)), .val (.int (2 : Int32)), .val (.int (1 : Int32)), .val (.int c1)] [(.int (255 : Int32)), (.int c1)])) t_
    refine XS.icmpYes X1.here hx rfl (pc0 := 20) (pc' := 26) rfl (hb hby djdk_52_method_21_code_20) rfl (flt (hc1 : ¬ ((255 : Int32) < c1))).2.2.2 (by decide) (by decide) ?_
    show Steps p_.tables e_ below (T1.setTop (mkF m_ 26 #[.val (.ref a), .val (.int (1 : Int32)), .val (.ref d), .val (.int (1 : Int32)), .val (.int (2 : Int32)), .val (.int (1 : Int32)), .val (.int c1)] [])) t_
    refine XS.aloadN X1.here hx rfl (hb hby djdk_52_method_21_code_26) rfl rfl ?_
    show Steps p_.tables e_ below (T1.setTop (mkF m_ 27 #[.val (.ref a), .val (.int (1 : Int32)), .val (.ref d), .val (.int (1 : Int32)), .val (.int (2 : Int32)), .val (.int (1 : Int32)), .val (.int c1)] [(.ref d)])) t_
    refine XS.iloadN X1.here hx rfl (hb hby djdk_52_method_21_code_27) rfl ?_
    show Steps p_.tables e_ below (T1.setTop (mkF m_ 28 #[.val (.ref a), .val (.int (1 : Int32)), .val (.ref d), .val (.int (1 : Int32)), .val (.int (2 : Int32)), .val (.int (1 : Int32)), .val (.int c1)] [(.int (1 : Int32)), (.ref d)])) t_
    refine XS.iload X1.here hx rfl (hb hby djdk_52_method_21_code_28) rfl ?_
    show Steps p_.tables e_ below (T1.setTop (mkF m_ 30 #[.val (.ref a), .val (.int (1 : Int32)), .val (.ref d), .val (.int (1 : Int32)), .val (.int (2 : Int32)), .val (.int (1 : Int32)), .val (.int c1)] [(.int c1), (.int (1 : Int32)), (.ref d)])) t_
    refine XS.i2b X1.here hx rfl (hb hby djdk_52_method_21_code_30) rfl ?_
    show Steps p_.tables e_ below (T1.setTop (mkF m_ 31 #[.val (.ref a), .val (.int (1 : Int32)), .val (.ref d), .val (.int (1 : Int32)), .val (.int (2 : Int32)), .val (.int (1 : Int32)), .val (.int c1)] [(.int (c1.toInt8.toInt32)), (.int (1 : Int32)), (.ref d)])) t_
    exact k_
  obtain ⟨T2, h2, X2, e2, W2, st2⟩ := own_stB X1 hx hZ e1 A_d (c1.toInt8.toInt32) (own_nb _) 1 (by decide) (by decide) (j := (1 : Int32)) (x := (c1.toInt8.toInt32)) (Ls := #[.val (.ref a), .val (.int (1 : Int32)), .val (.ref d), .val (.int (1 : Int32)), .val (.int (2 : Int32)), .val (.int (1 : Int32)), .val (.int c1)]) (rest := []) (hb hby djdk_52_method_21_code_31)
  have N2 := Fr.snoc X2 N1 g_d
  replace Z0 : n0 ≤ h2.size := W2.size ▸ Z0
  replace KP := KP.wr W2 (Or.inl (List.mem_of_getElem? (i := 0) rfl))
  replace A_a := A_a.other W2 ne_a_d
  replace A_d : own_A Z h2 d kd .byte 2 (fun x_ => .int (([(c0.toInt8.toInt32), (c1.toInt8.toInt32)] : List Int32).getD x_ 0)) := A_d.setLI (by decide) (Nat.le_of_ble_eq_true rfl) W2
  refine own_st T2 (mkF m_ 32 #[.val (.ref a), .val (.int (1 : Int32)), .val (.ref d), .val (.int (1 : Int32)), .val (.int (2 : Int32)), .val (.int (1 : Int32)), .val (.int c1)] []) st2 ?_
  refine own_st T2 (mkF m_ 46 #[.val (.ref a), .val (.int (2 : Int32)), .val (.ref d), .val (.int (2 : Int32)), .val (.int (2 : Int32)), .val (.int (2 : Int32)), .val (.int c1)] [(.int (2 : Int32))]) (fun t_ k_ => ?_) ?_
  · refine XS.iinc X2.here hx rfl (hb hby djdk_52_method_21_code_32) rfl (l' := #[.val (.ref a), .val (.int (2 : Int32)), .val (.ref d), .val (.int (1 : Int32)), .val (.int (2 : Int32)), .val (.int (1 : Int32)), .val (.int c1)]) rfl ?_
    show Steps p_.tables e_ below (T2.setTop (mkF m_ 35 #[.val (.ref a), .val (.int (2 : Int32)), .val (.ref d), .val (.int (1 : Int32)), .val (.int (2 : Int32)), .val (.int (1 : Int32)), .val (.int c1)] [])) t_
    refine XS.iinc X2.here hx rfl (hb hby djdk_52_method_21_code_35) rfl (l' := #[.val (.ref a), .val (.int (2 : Int32)), .val (.ref d), .val (.int (2 : Int32)), .val (.int (2 : Int32)), .val (.int (1 : Int32)), .val (.int c1)]) rfl ?_
    show Steps p_.tables e_ below (T2.setTop (mkF m_ 38 #[.val (.ref a), .val (.int (2 : Int32)), .val (.ref d), .val (.int (2 : Int32)), .val (.int (2 : Int32)), .val (.int (1 : Int32)), .val (.int c1)] [])) t_
    refine XS.iinc X2.here hx rfl (hb hby djdk_52_method_21_code_38) rfl (l' := #[.val (.ref a), .val (.int (2 : Int32)), .val (.ref d), .val (.int (2 : Int32)), .val (.int (2 : Int32)), .val (.int (2 : Int32)), .val (.int c1)]) rfl ?_
    show Steps p_.tables e_ below (T2.setTop (mkF m_ 41 #[.val (.ref a), .val (.int (2 : Int32)), .val (.ref d), .val (.int (2 : Int32)), .val (.int (2 : Int32)), .val (.int (2 : Int32)), .val (.int c1)] [])) t_
    refine XS.goto X2.here hx rfl (pc0 := 41) (pc' := 3) rfl (hb hby djdk_52_method_21_code_41) (by decide) (by decide) ?_
    show Steps p_.tables e_ below (T2.setTop (mkF m_ 3 #[.val (.ref a), .val (.int (2 : Int32)), .val (.ref d), .val (.int (2 : Int32)), .val (.int (2 : Int32)), .val (.int (2 : Int32)), .val (.int c1)] [])) t_
    refine XS.iload X2.here hx rfl (hb hby djdk_52_method_21_code_3) rfl ?_
    show Steps p_.tables e_ below (T2.setTop (mkF m_ 5 #[.val (.ref a), .val (.int (2 : Int32)), .val (.ref d), .val (.int (2 : Int32)), .val (.int (2 : Int32)), .val (.int (2 : Int32)), .val (.int c1)] [(.int (2 : Int32))])) t_
    refine XS.iload X2.here hx rfl (hb hby djdk_52_method_21_code_5) rfl ?_
    show Steps p_.tables e_ below (T2.setTop (mkF m_ 7 #[.val (.ref a), .val (.int (2 : Int32)), .val (.ref d), .val (.int (2 : Int32)), .val (.int (2 : Int32)), .val (.int (2 : Int32)), .val (.int c1)] [(.int (2 : Int32)), (.int (2 : Int32))])) t_
    refine XS.icmpYes X2.here hx rfl (pc0 := 7) (pc' := 44) rfl (hb hby djdk_52_method_21_code_7) rfl (flt (by decide : ¬ ((2 : Int32) < (2 : Int32)))).2.1 (by decide) (by decide) ?_
    show Steps p_.tables e_ below (T2.setTop (mkF m_ 44 #[.val (.ref a), .val (.int (2 : Int32)), .val (.ref d), .val (.int (2 : Int32)), .val (.int (2 : Int32)), .val (.int (2 : Int32)), .val (.int c1)] [])) t_
    refine XS.iload X2.here hx rfl (hb hby djdk_52_method_21_code_44) rfl ?_
    show Steps p_.tables e_ below (T2.setTop (mkF m_ 46 #[.val (.ref a), .val (.int (2 : Int32)), .val (.ref d), .val (.int (2 : Int32)), .val (.int (2 : Int32)), .val (.int (2 : Int32)), .val (.int c1)] [(.int (2 : Int32))])) t_
    exact k_
  refine own_retI X2 hx hlk hret (hb hby djdk_52_method_21_code_46) (by decide) (by decide) ?_
  rw [e2]
  exact ⟨rfl, N2, KP, A_d⟩
theorem ef_rm4_2 (m_ : MethodId) (a : Addr) : entryFrame m_ #[(.ref a), (.int (0 : Int32)), (.int (2 : Int32))] 6 = mkF m_ 0 #[.val (.ref a), .val (.int (0 : Int32)), .val (.int (2 : Int32)), .unset, .unset, .unset] [] := by first | (simp [entryFrame, mkF, argsToLocals, Value.category]; done) | rfl
set_option maxRecDepth 65536 in
set_option maxHeartbeats 40000000 in
theorem rm4_2 (l : Launch) (Z : State) (a0 : Array Value) (hw : ∀ d ∈ tables_1, d.before a0 Z = true) (a : Addr) (ka : ClassId) (c0 c1 : Int32) (h0 : Heap) (n0 : Nat) (Z0 : n0 ≤ h0.size) (A_a : own_A Z h0 a ka .char 2 (fun x_ => .int (([c0, c1] : List Int32).getD x_ 0))) (hc0 : ¬ (255 : Int32) < c0) (hc1 : ¬ (255 : Int32) < c1) :
    own_Met l Z (⟨"java/lang/StringUTF16", "compress", "([CII)[B"⟩ : MethodName) jdk_52_method_16_code 6 (some (.array .byte)) ({ frames := 1, cells := 1, slots := 2, locals := 18 } : Room) #[(.ref a), (.int (0 : Int32)), (.int (2 : Int32))] h0 (fun v h L => ∃ (d : Addr) (kd : ClassId), v = some (.ref d) ∧ n0 ≤ d ∧ h0.size ≤ d ∧ Fr n0 L ∧ Keep h0 h [] ∧ own_A Z h d kd .byte 2 (fun x_ => .int (([(c0.toInt8.toInt32), (c1.toInt8.toInt32)] : List Int32).getD x_ 0))) := by
  refine own_body #[.val (.ref a), .val (.int (0 : Int32)), .val (.int (2 : Int32)), .unset, .unset, .unset] (plainFor_of_name own_pn0) (fun m_ => ef_rm4_2 m_ a) ?_
  intro p_ e_ s_ m_ below meth c_ s₁ X0 hx hby hml hret hlk hZ hown hnm e0
  have N0 := Fr.nil n0
  have KP := Keep.refl h0 []
  show own_Out p_ e_ below s_ _ _ _ s₁ (mkF m_ 0 #[.val (.ref a), .val (.int (0 : Int32)), .val (.int (2 : Int32)), .unset, .unset, .unset] [])
  refine own_st s₁ (mkF m_ 1 #[.val (.ref a), .val (.int (0 : Int32)), .val (.int (2 : Int32)), .unset, .unset, .unset] [(.int (2 : Int32))]) (fun t_ k_ => ?_) ?_
  · refine XS.iloadN X0.here hx rfl (hb hby djdk_52_method_16_code_0) rfl ?_
    show Steps p_.tables e_ below (s₁.setTop (mkF m_ 1 #[.val (.ref a), .val (.int (0 : Int32)), .val (.int (2 : Int32)), .unset, .unset, .unset] [(.int (2 : Int32))])) t_
    exact k_
  obtain ⟨T1, h1, k1, X1, e1, E1, A1, st1⟩ := newP X0 hx hZ (hw _ (List.mem_of_getElem? (i := 19) rfl)) e0 (g := (mkF m_ 1 #[.val (.ref a), .val (.int (0 : Int32)), .val (.int (2 : Int32)), .unset, .unset, .unset] [(.int (2 : Int32))])) rfl (hb hby djdk_52_method_16_code_1) rfl (by decide) (cap := 2) (by decide) (by decide) (by decide) (by decide)
  obtain ⟨b1, g1⟩ : ∃ z, z = h0.size := ⟨_, rfl⟩
  rw [← g1] at A1 st1
  have g_b1 : n0 ≤ b1 := g1 ▸ Z0
  have sz_b1 : h0.size ≤ b1 := g1 ▸ KP.1
  have ne_a_b1 : a ≠ b1 := Nat.ne_of_lt (Nat.lt_of_lt_of_le A_a.lt (Nat.le_of_eq g1.symm))
  replace KP := KP.ext E1
  replace A_a := A_a.ext E1
  replace Z0 : n0 ≤ h1.size := Nat.le_trans Z0 E1.1
  have A_b1 : own_A Z h1 b1 k1 .byte 2 (fun x_ => .int (([(0 : Int32), (0 : Int32)] : List Int32).getD x_ 0)) := own_A.newLI A1 (by decide) 2 (by decide) rfl
  refine own_st T1 (mkF m_ 3 #[.val (.ref a), .val (.int (0 : Int32)), .val (.int (2 : Int32)), .unset, .unset, .unset] [(.ref b1)]) st1 ?_
  refine own_st T1 (mkF m_ 9 #[.val (.ref a), .val (.int (0 : Int32)), .val (.int (2 : Int32)), .val (.ref b1), .unset, .unset] [(.int (2 : Int32)), (.int (0 : Int32)), (.ref b1), (.int (0 : Int32)), (.ref a)]) (fun t_ k_ => ?_) ?_
  · refine XS.astoreN X1.here hx rfl (hb hby djdk_52_method_16_code_3) rfl rfl (l' := #[.val (.ref a), .val (.int (0 : Int32)), .val (.int (2 : Int32)), .val (.ref b1), .unset, .unset]) rfl ?_
    show Steps p_.tables e_ below (T1.setTop (mkF m_ 4 #[.val (.ref a), .val (.int (0 : Int32)), .val (.int (2 : Int32)), .val (.ref b1), .unset, .unset] [])) t_
    refine XS.aloadN X1.here hx rfl (hb hby djdk_52_method_16_code_4) rfl rfl ?_
    show Steps p_.tables e_ below (T1.setTop (mkF m_ 5 #[.val (.ref a), .val (.int (0 : Int32)), .val (.int (2 : Int32)), .val (.ref b1), .unset, .unset] [(.ref a)])) t_
    refine XS.iloadN X1.here hx rfl (hb hby djdk_52_method_16_code_5) rfl ?_
    show Steps p_.tables e_ below (T1.setTop (mkF m_ 6 #[.val (.ref a), .val (.int (0 : Int32)), .val (.int (2 : Int32)), .val (.ref b1), .unset, .unset] [(.int (0 : Int32)), (.ref a)])) t_
    refine XS.aloadN X1.here hx rfl (hb hby djdk_52_method_16_code_6) rfl rfl ?_
    show Steps p_.tables e_ below (T1.setTop (mkF m_ 7 #[.val (.ref a), .val (.int (0 : Int32)), .val (.int (2 : Int32)), .val (.ref b1), .unset, .unset] [(.ref b1), (.int (0 : Int32)), (.ref a)])) t_
    refine XS.iconst X1.here hx rfl (hb hby djdk_52_method_16_code_7) ?_
    show Steps p_.tables e_ below (T1.setTop (mkF m_ 8 #[.val (.ref a), .val (.int (0 : Int32)), .val (.int (2 : Int32)), .val (.ref b1), .unset, .unset] [(.int (0 : Int32)), (.ref b1), (.int (0 : Int32)), (.ref a)])) t_
    refine XS.iloadN X1.here hx rfl (hb hby djdk_52_method_16_code_8) rfl ?_
    show Steps p_.tables e_ below (T1.setTop (mkF m_ 9 #[.val (.ref a), .val (.int (0 : Int32)), .val (.int (2 : Int32)), .val (.ref b1), .unset, .unset] [(.int (2 : Int32)), (.int (0 : Int32)), (.ref b1), (.int (0 : Int32)), (.ref a)])) t_
    exact k_
  refine own_callS X1 hx hZ hown (hw _ (List.mem_of_getElem? (i := 20) rfl)) (hw _ (List.mem_of_getElem? (i := 21) rfl)) (hw _ (List.mem_of_getElem? (i := 17) rfl)) (hw _ (List.mem_of_getElem? (i := 22) rfl)) (by decide) [(.ref a), (.int (0 : Int32)), (.ref b1), (.int (0 : Int32)), (.int (2 : Int32))] [] (rm5_2 l Z a0 hw a b1 ka k1 c0 c1 h1 n0 Z0 A_a A_b1 ne_a_b1 g_b1 hc0 hc1) 0 (by decide) (by decide) e1 (by rw [hml]; rfl) (lenOf own_pd0 rfl) rfl (Nat.le_of_eq rfl) (hb hby djdk_52_method_16_code_9) (by decide) (by decide) ?_
  intro v2 T2 L2 X2 q2
  obtain ⟨rfl, N2q, K2, Aq2⟩ := q2
  have N2 := Fr.app N0 N2q
  replace KP := KP.trans K2 (allS (Or.inr sz_b1) all0)
  replace A_a := A_a.keep K2 (ninS ne_a_b1 nin0)
  -- A_b1 is dropped: written by the callee
  replace Z0 : n0 ≤ T2.heap.size := Nat.le_trans Z0 K2.1
  have A_b1 := Aq2
  show own_Out p_ e_ below _ _ _ _ T2 (mkF m_ 12 #[.val (.ref a), .val (.int (0 : Int32)), .val (.int (2 : Int32)), .val (.ref b1), .unset, .unset] [(.int (2 : Int32))])
  refine own_st T2 (mkF m_ 58 #[.val (.ref a), .val (.int (0 : Int32)), .val (.int (2 : Int32)), .val (.ref b1), .val (.int (2 : Int32)), .unset] [(.ref b1)]) (fun t_ k_ => ?_) ?_
  · refine XS.istore X2.here hx rfl (hb hby djdk_52_method_16_code_12) rfl (l' := #[.val (.ref a), .val (.int (0 : Int32)), .val (.int (2 : Int32)), .val (.ref b1), .val (.int (2 : Int32)), .unset]) rfl ?_
    show Steps p_.tables e_ below (T2.setTop (mkF m_ 14 #[.val (.ref a), .val (.int (0 : Int32)), .val (.int (2 : Int32)), .val (.ref b1), .val (.int (2 : Int32)), .unset] [])) t_
    refine XS.iload X2.here hx rfl (hb hby djdk_52_method_16_code_14) rfl ?_
    show Steps p_.tables e_ below (T2.setTop (mkF m_ 16 #[.val (.ref a), .val (.int (0 : Int32)), .val (.int (2 : Int32)), .val (.ref b1), .val (.int (2 : Int32)), .unset] [(.int (2 : Int32))])) t_
    refine XS.iloadN X2.here hx rfl (hb hby djdk_52_method_16_code_16) rfl ?_
    show Steps p_.tables e_ below (T2.setTop (mkF m_ 17 #[.val (.ref a), .val (.int (0 : Int32)), .val (.int (2 : Int32)), .val (.ref b1), .val (.int (2 : Int32)), .unset] [(.int (2 : Int32)), (.int (2 : Int32))])) t_
    refine XS.icmpYes X2.here hx rfl (pc0 := 17) (pc' := 57) rfl (hb hby djdk_52_method_16_code_17) rfl (teq (by decide : (2 : Int32) = (2 : Int32))).1 (by decide) (by decide) ?_
    show Steps p_.tables e_ below (T2.setTop (mkF m_ 57 #[.val (.ref a), .val (.int (0 : Int32)), .val (.int (2 : Int32)), .val (.ref b1), .val (.int (2 : Int32)), .unset] [])) t_
    refine XS.aloadN X2.here hx rfl (hb hby djdk_52_method_16_code_57) rfl rfl ?_
    show Steps p_.tables e_ below (T2.setTop (mkF m_ 58 #[.val (.ref a), .val (.int (0 : Int32)), .val (.int (2 : Int32)), .val (.ref b1), .val (.int (2 : Int32)), .unset] [(.ref b1)])) t_
    exact k_
  refine own_retA X2 hx hlk hret rfl rfl (hb hby djdk_52_method_16_code_58) (by decide) (by decide) ?_
  exact ⟨b1, k1, rfl, g_b1, sz_b1, N2, KP, A_b1⟩
theorem ef_rm6_2 (m_ : MethodId) (d : Addr) : entryFrame m_ #[(.ref d), (.int (2 : Int32))] 2 = mkF m_ 0 #[.val (.ref d), .val (.int (2 : Int32))] [] := by first | (simp [entryFrame, mkF, argsToLocals, Value.category]; done) | rfl
set_option maxRecDepth 65536 in
set_option maxHeartbeats 40000000 in
theorem rm6_2 (l : Launch) (Z : State) (a0 : Array Value) (hw : ∀ d ∈ tables_1, d.before a0 Z = true) (d : Addr) (kd : ClassId) (c0 c1 : Int32) (h0 : Heap) (n0 : Nat) (Z0 : n0 ≤ h0.size) (A_d : own_A Z h0 d kd .byte 2 (fun x_ => .int (([(c0.toInt8.toInt32), (c1.toInt8.toInt32)] : List Int32).getD x_ 0))) :
    own_Met l Z (⟨"java/lang/StringUTF16", "coderFromArrayLen", "([BI)B"⟩ : MethodName) jdk_52_method_15_code 2 (some .byte) ({ frames := 0, cells := 0, slots := 0, locals := 0 } : Room) #[(.ref d), (.int (2 : Int32))] h0 (fun v h L => v = some (.int (0 : Int32)) ∧ Fr n0 L ∧ h = h0) := by
  refine own_body #[.val (.ref d), .val (.int (2 : Int32))] (plainFor_of_name own_pn0) (fun m_ => ef_rm6_2 m_ d) ?_
  intro p_ e_ s_ m_ below meth c_ s₁ X0 hx hby hml hret hlk hZ hown hnm e0
  have N0 := Fr.nil n0
  show own_Out p_ e_ below s_ _ _ _ s₁ (mkF m_ 0 #[.val (.ref d), .val (.int (2 : Int32))] [])
  refine own_st s₁ (mkF m_ 8 #[.val (.ref d), .val (.int (2 : Int32))] [(.int ((0 : Int32).toInt8.toInt32))]) (fun t_ k_ => ?_) ?_
  · refine XS.iloadN X0.here hx rfl (hb hby djdk_52_method_15_code_0) rfl ?_
    show Steps p_.tables e_ below (s₁.setTop (mkF m_ 1 #[.val (.ref d), .val (.int (2 : Int32))] [(.int (2 : Int32))])) t_
    refine XS.aloadN X0.here hx rfl (hb hby djdk_52_method_15_code_1) rfl rfl ?_
    show Steps p_.tables e_ below (s₁.setTop (mkF m_ 2 #[.val (.ref d), .val (.int (2 : Int32))] [(.ref d), (.int (2 : Int32))])) t_
    refine own_len X0 hx hZ e0 A_d (hb hby djdk_52_method_15_code_2) (2 : Int32) (by decide) _ ?_
    show Steps p_.tables e_ below (s₁.setTop (mkF m_ 3 #[.val (.ref d), .val (.int (2 : Int32))] [(.int (2 : Int32)), (.int (2 : Int32))])) t_
    refine XS.isub X0.here hx rfl (hb hby djdk_52_method_15_code_3) rfl ?_
    show Steps p_.tables e_ below (s₁.setTop (mkF m_ 4 #[.val (.ref d), .val (.int (2 : Int32))] [(.int (0 : Int32))])) t_
    refine XS.bipush X0.here hx rfl (hb hby djdk_52_method_15_code_4) ?_
    show Steps p_.tables e_ below (s₁.setTop (mkF m_ 6 #[.val (.ref d), .val (.int (2 : Int32))] [(.int (31 : Int32)), (.int (0 : Int32))])) t_
    refine XS.iushr X0.here hx rfl (hb hby djdk_52_method_15_code_6) rfl ?_
    show Steps p_.tables e_ below (s₁.setTop (mkF m_ 7 #[.val (.ref d), .val (.int (2 : Int32))] [(.int (0 : Int32))])) t_
    refine XS.i2b X0.here hx rfl (hb hby djdk_52_method_15_code_7) rfl ?_
    show Steps p_.tables e_ below (s₁.setTop (mkF m_ 8 #[.val (.ref d), .val (.int (2 : Int32))] [(.int ((0 : Int32).toInt8.toInt32))])) t_
    exact k_
  refine own_retN X0 hx hlk (t := .byte) hret (by simp) (hb hby djdk_52_method_15_code_8) (by decide) (by decide) ?_
  rw [e0]
  exact ⟨rfl, N0, rfl⟩
theorem ef_rm2_2 (m_ : MethodId) (a : Addr) (u : Addr) : entryFrame m_ #[(.ref a), (.ref u), (.int (0 : Int32)), (.int (2 : Int32)), .null] 6 = mkF m_ 0 #[.val (.ref a), .val (.ref u), .val (.int (0 : Int32)), .val (.int (2 : Int32)), .val .null, .unset] [] := by first | (simp [entryFrame, mkF, argsToLocals, Value.category]; done) | rfl
set_option maxRecDepth 65536 in
set_option maxHeartbeats 40000000 in
theorem rm2_2 (l : Launch) (Z : State) (a0 : Array Value) (hw : ∀ d ∈ tables_1, d.before a0 Z = true) (a : Addr) (u : Addr) (ku : ClassId) (cs : Int32) (c0 c1 : Int32) (h0 : Heap) (n0 : Nat) (Z0 : n0 ≤ h0.size) (O : Old Z n0 h0) (S_CS : Sta Z Z.heap "java/lang/String" "COMPACT_STRINGS" "Z" (.int cs)) (hcs : ¬ cs = (0 : Int32)) (E_a : Exa Z h0 a "java/lang/String") (F_value_a : Fld Z h0 a "java/lang/String" "value" "[B" .null) (F_coder_a : Fld Z h0 a "java/lang/String" "coder" "B" (.int (0 : Int32))) (g_a : n0 ≤ a) (A_u : own_A Z h0 u ku .char 2 (fun x_ => .int (([c0, c1] : List Int32).getD x_ 0))) (ne_u_a : u ≠ a) (hc0 : ¬ (255 : Int32) < c0) (hc1 : ¬ (255 : Int32) < c1) :
    own_Met l Z (⟨"java/lang/String", "<init>", "([CIILjava/lang/Void;)V"⟩ : MethodName) jdk_42_method_149_code 6 none ({ frames := 2, cells := 1, slots := 2, locals := 35 } : Room) #[(.ref a), (.ref u), (.int (0 : Int32)), (.int (2 : Int32)), .null] h0 (fun v h L => v = none ∧ Fr n0 L ∧ Keep h0 h [a]) := by
  refine own_body #[.val (.ref a), .val (.ref u), .val (.int (0 : Int32)), .val (.int (2 : Int32)), .val .null, .unset] (plainFor_of_name own_pn1) (fun m_ => ef_rm2_2 m_ a u) ?_
  intro p_ e_ s_ m_ below meth c_ s₁ X0 hx hby hml hret hlk hZ hown hnm e0
  have N0 := Fr.nil n0
  have KP := Keep.refl h0 [a]
  show own_Out p_ e_ below s_ _ _ _ s₁ (mkF m_ 0 #[.val (.ref a), .val (.ref u), .val (.int (0 : Int32)), .val (.int (2 : Int32)), .val .null, .unset] [])
  refine own_st s₁ (mkF m_ 1 #[.val (.ref a), .val (.ref u), .val (.int (0 : Int32)), .val (.int (2 : Int32)), .val .null, .unset] [(.ref a)]) (fun t_ k_ => ?_) ?_
  · refine XS.aloadN X0.here hx rfl (hb hby djdk_42_method_149_code_0) rfl rfl ?_
    show Steps p_.tables e_ below (s₁.setTop (mkF m_ 1 #[.val (.ref a), .val (.ref u), .val (.int (0 : Int32)), .val (.int (2 : Int32)), .val .null, .unset] [(.ref a)])) t_
    exact k_
  obtain ⟨T1, X1, e1, st1⟩ := initO X0 hx hZ hown (hw _ (List.mem_of_getElem? (i := 11) rfl)) (hw _ (List.mem_of_getElem? (i := 12) rfl)) (hw _ (List.mem_of_getElem? (i := 13) rfl)) e0 (g := (mkF m_ 1 #[.val (.ref a), .val (.ref u), .val (.int (0 : Int32)), .val (.int (2 : Int32)), .val .null, .unset] [(.ref a)])) rfl (by rw [hml]; rfl) rfl (hb hby djdk_42_method_149_code_1) (by decide) (W := 0) (by show 2 * 0 + _ ≤ _; exact Nat.le_of_eq rfl) (by decide)
  refine own_st T1 (mkF m_ 4 #[.val (.ref a), .val (.ref u), .val (.int (0 : Int32)), .val (.int (2 : Int32)), .val .null, .unset] []) st1 ?_
  refine own_st T1 (mkF m_ 27 #[.val (.ref a), .val (.ref u), .val (.int (0 : Int32)), .val (.int (2 : Int32)), .val .null, .unset] []) (fun t_ k_ => ?_) ?_
  · refine XS.iloadN X1.here hx rfl (hb hby djdk_42_method_149_code_4) rfl ?_
    show Steps p_.tables e_ below (T1.setTop (mkF m_ 5 #[.val (.ref a), .val (.ref u), .val (.int (0 : Int32)), .val (.int (2 : Int32)), .val .null, .unset] [(.int (2 : Int32))])) t_
    refine XS.ifYes X1.here hx rfl (pc0 := 5) (pc' := 27) rfl (hb hby djdk_42_method_149_code_5) rfl ((if0 _ _).trans (feq (by decide : ¬ ((2 : Int32) = (0 : Int32)))).2) (by decide) (by decide) ?_
    show Steps p_.tables e_ below (T1.setTop (mkF m_ 27 #[.val (.ref a), .val (.ref u), .val (.int (0 : Int32)), .val (.int (2 : Int32)), .val .null, .unset] [])) t_
    exact k_
  obtain ⟨T2, X2, e2, st2⟩ := getS2 X1 hx hZ hown (host := "") (Or.inl (hw _ (List.mem_of_getElem? (i := 14) rfl))) Via.refl e1 (S_CS.ext O.2) (g := (mkF m_ 27 #[.val (.ref a), .val (.ref u), .val (.int (0 : Int32)), .val (.int (2 : Int32)), .val .null, .unset] [])) rfl (hb hby djdk_42_method_149_code_27)
  refine own_st T2 (mkF m_ 30 #[.val (.ref a), .val (.ref u), .val (.int (0 : Int32)), .val (.int (2 : Int32)), .val .null, .unset] [(.int cs)]) st2 ?_
  refine own_st T2 (mkF m_ 36 #[.val (.ref a), .val (.ref u), .val (.int (0 : Int32)), .val (.int (2 : Int32)), .val .null, .unset] [(.int (2 : Int32)), (.int (0 : Int32)), (.ref u)]) (fun t_ k_ => ?_) ?_
  · refine XS.ifNo X2.here hx rfl (hb hby djdk_42_method_149_code_30) rfl ((if0 _ _).trans (feq (hcs : ¬ (cs = (0 : Int32)))).1) ?_
    show Steps p_.tables e_ below (T2.setTop (mkF m_ 33 #[.val (.ref a), .val (.ref u), .val (.int (0 : Int32)), .val (.int (2 : Int32)), .val .null, .unset] [])) t_
    refine XS.aloadN X2.here hx rfl (hb hby djdk_42_method_149_code_33) rfl rfl ?_
    show Steps p_.tables e_ below (T2.setTop (mkF m_ 34 #[.val (.ref a), .val (.ref u), .val (.int (0 : Int32)), .val (.int (2 : Int32)), .val .null, .unset] [(.ref u)])) t_
    refine XS.iloadN X2.here hx rfl (hb hby djdk_42_method_149_code_34) rfl ?_
    show Steps p_.tables e_ below (T2.setTop (mkF m_ 35 #[.val (.ref a), .val (.ref u), .val (.int (0 : Int32)), .val (.int (2 : Int32)), .val .null, .unset] [(.int (0 : Int32)), (.ref u)])) t_
    refine XS.iloadN X2.here hx rfl (hb hby djdk_42_method_149_code_35) rfl ?_
    show Steps p_.tables e_ below (T2.setTop (mkF m_ 36 #[.val (.ref a), .val (.ref u), .val (.int (0 : Int32)), .val (.int (2 : Int32)), .val .null, .unset] [(.int (2 : Int32)), (.int (0 : Int32)), (.ref u)])) t_
    exact k_
  refine own_callS X2 hx hZ hown (hw _ (List.mem_of_getElem? (i := 15) rfl)) (hw _ (List.mem_of_getElem? (i := 16) rfl)) (hw _ (List.mem_of_getElem? (i := 17) rfl)) (hw _ (List.mem_of_getElem? (i := 18) rfl)) (by decide) [(.ref u), (.int (0 : Int32)), (.int (2 : Int32))] [] (rm4_2 l Z a0 hw u ku c0 c1 h0 n0 Z0 A_u hc0 hc1) 0 (by decide) (by decide) e2 (by rw [hml]; rfl) (lenOf own_pd1 rfl) rfl (Nat.le_of_eq rfl) (hb hby djdk_42_method_149_code_36) (by decide) (by decide) ?_
  intro v3 T3 L3 X3 q3
  obtain ⟨d3, kd3, rfl, g_d3, sz3, N3q, K3, A_d3⟩ := q3
  have N3 := Fr.app N0 N3q
  have ne_a_d3 : a ≠ d3 := Nat.ne_of_lt (Nat.lt_of_lt_of_le E_a.lt sz3)
  have ne_u_d3 : u ≠ d3 := Nat.ne_of_lt (Nat.lt_of_lt_of_le A_u.lt sz3)
  replace KP := KP.trans K3 all0
  replace O := O.keep K3 all0
  replace E_a := E_a.keep K3
  replace F_value_a := F_value_a.keep K3 nin0
  replace F_coder_a := F_coder_a.keep K3 nin0
  replace A_u := A_u.keep K3 nin0
  replace Z0 : n0 ≤ T3.heap.size := Nat.le_trans Z0 K3.1
  show own_Out p_ e_ below _ _ _ _ T3 (mkF m_ 39 #[.val (.ref a), .val (.ref u), .val (.int (0 : Int32)), .val (.int (2 : Int32)), .val .null, .unset] [(.ref d3)])
  refine own_st T3 (mkF m_ 45 #[.val (.ref a), .val (.ref u), .val (.int (0 : Int32)), .val (.int (2 : Int32)), .val .null, .val (.ref d3)] [(.int (2 : Int32)), (.ref d3), (.ref a)]) (fun t_ k_ => ?_) ?_
  · refine XS.astore X3.here hx rfl (hb hby djdk_42_method_149_code_39) rfl rfl (l' := #[.val (.ref a), .val (.ref u), .val (.int (0 : Int32)), .val (.int (2 : Int32)), .val .null, .val (.ref d3)]) rfl ?_
    show Steps p_.tables e_ below (T3.setTop (mkF m_ 41 #[.val (.ref a), .val (.ref u), .val (.int (0 : Int32)), .val (.int (2 : Int32)), .val .null, .val (.ref d3)] [])) t_
    refine XS.aloadN X3.here hx rfl (hb hby djdk_42_method_149_code_41) rfl rfl ?_
    show Steps p_.tables e_ below (T3.setTop (mkF m_ 42 #[.val (.ref a), .val (.ref u), .val (.int (0 : Int32)), .val (.int (2 : Int32)), .val .null, .val (.ref d3)] [(.ref a)])) t_
    refine XS.aload X3.here hx rfl (hb hby djdk_42_method_149_code_42) rfl rfl ?_
    show Steps p_.tables e_ below (T3.setTop (mkF m_ 44 #[.val (.ref a), .val (.ref u), .val (.int (0 : Int32)), .val (.int (2 : Int32)), .val .null, .val (.ref d3)] [(.ref d3), (.ref a)])) t_
    refine XS.iloadN X3.here hx rfl (hb hby djdk_42_method_149_code_44) rfl ?_
    show Steps p_.tables e_ below (T3.setTop (mkF m_ 45 #[.val (.ref a), .val (.ref u), .val (.int (0 : Int32)), .val (.int (2 : Int32)), .val .null, .val (.ref d3)] [(.int (2 : Int32)), (.ref d3), (.ref a)])) t_
    exact k_
  refine own_callS X3 hx hZ hown (hw _ (List.mem_of_getElem? (i := 23) rfl)) (hw _ (List.mem_of_getElem? (i := 24) rfl)) (hw _ (List.mem_of_getElem? (i := 17) rfl)) (hw _ (List.mem_of_getElem? (i := 25) rfl)) (by decide) [(.ref d3), (.int (2 : Int32))] [(.ref a)] (rm6_2 l Z a0 hw d3 kd3 c0 c1 T3.heap n0 Z0 A_d3) 1 (by decide) (by decide) rfl (by rw [hml]; rfl) (lenOf own_pd2 rfl) rfl (Nat.le_of_eq rfl) (hb hby djdk_42_method_149_code_45) (by decide) (by decide) ?_
  intro v4 T4 L4 X4 q4
  obtain ⟨rfl, N4q, e4⟩ := q4
  have N4 := Fr.app N3 N4q
  show own_Out p_ e_ below _ _ _ _ T4 (mkF m_ 48 #[.val (.ref a), .val (.ref u), .val (.int (0 : Int32)), .val (.int (2 : Int32)), .val .null, .val (.ref d3)] [(.int (0 : Int32)), (.ref a)])
  obtain ⟨T5, h5, X5, e5, W5, st5⟩ := putFN X4 hx hZ hown (hw _ (List.mem_of_getElem? (i := 26) rfl)) Via.refl e4 F_coder_a E_a (Or.inr ⟨(hw _ (List.mem_of_getElem? (i := 27) rfl)), rfl, hnm⟩) (hw _ (List.mem_of_getElem? (i := 2) rfl)) (ty := .byte) (v' := (.int (0 : Int32))) (by decide) rfl rfl (g := (mkF m_ 48 #[.val (.ref a), .val (.ref u), .val (.int (0 : Int32)), .val (.int (2 : Int32)), .val .null, .val (.ref d3)] [(.int (0 : Int32)), (.ref a)])) rfl rfl (hb hby djdk_42_method_149_code_48)
  have N5 := Fr.snoc X5 N4 g_a
  replace Z0 : n0 ≤ h5.size := W5.size ▸ Z0
  replace KP := KP.wr W5 (Or.inl (List.mem_of_getElem? (i := 0) rfl))
  replace O := O.wr W5 g_a
  replace E_a := E_a.wr W5
  replace F_value_a := F_value_a.other W5 (Or.inr (slot_ne (Or.inr (hw _ (List.mem_of_getElem? (i := 29) rfl))) (Or.inr (hw _ (List.mem_of_getElem? (i := 27) rfl))) (by decide) (t := (.array .byte)) (t' := .byte) (by decide) (by decide)))
  replace A_u := A_u.other W5 ne_u_a
  replace A_d3 := A_d3.other W5 (Ne.symm ne_a_d3)
  replace F_coder_a := F_coder_a.same W5
  refine own_st T5 (mkF m_ 51 #[.val (.ref a), .val (.ref u), .val (.int (0 : Int32)), .val (.int (2 : Int32)), .val .null, .val (.ref d3)] []) st5 ?_
  refine own_st T5 (mkF m_ 54 #[.val (.ref a), .val (.ref u), .val (.int (0 : Int32)), .val (.int (2 : Int32)), .val .null, .val (.ref d3)] [(.ref d3), (.ref a)]) (fun t_ k_ => ?_) ?_
  · refine XS.aloadN X5.here hx rfl (hb hby djdk_42_method_149_code_51) rfl rfl ?_
    show Steps p_.tables e_ below (T5.setTop (mkF m_ 52 #[.val (.ref a), .val (.ref u), .val (.int (0 : Int32)), .val (.int (2 : Int32)), .val .null, .val (.ref d3)] [(.ref a)])) t_
    refine XS.aload X5.here hx rfl (hb hby djdk_42_method_149_code_52) rfl rfl ?_
    show Steps p_.tables e_ below (T5.setTop (mkF m_ 54 #[.val (.ref a), .val (.ref u), .val (.int (0 : Int32)), .val (.int (2 : Int32)), .val .null, .val (.ref d3)] [(.ref d3), (.ref a)])) t_
    exact k_
  obtain ⟨T6, h6, X6, e6, W6, st6⟩ := putF X5 hx hZ hown (host := "") (Or.inl (hw _ (List.mem_of_getElem? (i := 28) rfl))) Via.refl e5 F_value_a E_a (Or.inr ⟨(hw _ (List.mem_of_getElem? (i := 29) rfl)), rfl, hnm⟩) (hw _ (List.mem_of_getElem? (i := 2) rfl)) (ty := (.array .byte)) (by decide) rfl rfl (g := (mkF m_ 54 #[.val (.ref a), .val (.ref u), .val (.int (0 : Int32)), .val (.int (2 : Int32)), .val .null, .val (.ref d3)] [(.ref d3), (.ref a)])) rfl rfl (hb hby djdk_42_method_149_code_54)
  have N6 := Fr.snoc X6 N5 g_a
  replace Z0 : n0 ≤ h6.size := W6.size ▸ Z0
  replace KP := KP.wr W6 (Or.inl (List.mem_of_getElem? (i := 0) rfl))
  replace O := O.wr W6 g_a
  replace E_a := E_a.wr W6
  replace F_coder_a := F_coder_a.other W6 (Or.inr (slot_ne (Or.inr (hw _ (List.mem_of_getElem? (i := 27) rfl))) (Or.inr (hw _ (List.mem_of_getElem? (i := 29) rfl))) (by decide) (t := .byte) (t' := (.array .byte)) (by decide) (by decide)))
  replace A_u := A_u.other W6 ne_u_a
  replace A_d3 := A_d3.other W6 (Ne.symm ne_a_d3)
  replace F_value_a := F_value_a.same W6
  refine own_st T6 (mkF m_ 57 #[.val (.ref a), .val (.ref u), .val (.int (0 : Int32)), .val (.int (2 : Int32)), .val .null, .val (.ref d3)] []) st6 ?_
  refine own_ret0 X6 hx hlk hret (hb hby djdk_42_method_149_code_57) (by decide) (by decide) ?_
  rw [e6]
  exact ⟨rfl, N6, KP⟩
theorem ef_rm1_2 (m_ : MethodId) (a : Addr) (u : Addr) : entryFrame m_ #[(.ref a), (.ref u)] 2 = mkF m_ 0 #[.val (.ref a), .val (.ref u)] [] := by first | (simp [entryFrame, mkF, argsToLocals, Value.category]; done) | rfl
set_option maxRecDepth 65536 in
set_option maxHeartbeats 40000000 in
theorem rm1_2 (l : Launch) (Z : State) (a0 : Array Value) (hw : ∀ d ∈ tables_1, d.before a0 Z = true) (a : Addr) (u : Addr) (ku : ClassId) (cs : Int32) (c0 c1 : Int32) (h0 : Heap) (n0 : Nat) (Z0 : n0 ≤ h0.size) (O : Old Z n0 h0) (S_CS : Sta Z Z.heap "java/lang/String" "COMPACT_STRINGS" "Z" (.int cs)) (hcs : ¬ cs = (0 : Int32)) (E_a : Exa Z h0 a "java/lang/String") (F_value_a : Fld Z h0 a "java/lang/String" "value" "[B" .null) (F_coder_a : Fld Z h0 a "java/lang/String" "coder" "B" (.int (0 : Int32))) (g_a : n0 ≤ a) (A_u : own_A Z h0 u ku .char 2 (fun x_ => .int (([c0, c1] : List Int32).getD x_ 0))) (ne_u_a : u ≠ a) (hc0 : ¬ (255 : Int32) < c0) (hc1 : ¬ (255 : Int32) < c1) :
    own_Met l Z (⟨"java/lang/String", "<init>", "([C)V"⟩ : MethodName) jdk_42_method_3_code 2 none ({ frames := 3, cells := 1, slots := 2, locals := 52 } : Room) #[(.ref a), (.ref u)] h0 (fun v h L => v = none ∧ Fr n0 L ∧ Keep h0 h [a]) := by
  refine own_body #[.val (.ref a), .val (.ref u)] (plainFor_of_name own_pn1) (fun m_ => ef_rm1_2 m_ a u) ?_
  intro p_ e_ s_ m_ below meth c_ s₁ X0 hx hby hml hret hlk hZ hown hnm e0
  have N0 := Fr.nil n0
  have KP := Keep.refl h0 [a]
  show own_Out p_ e_ below s_ _ _ _ s₁ (mkF m_ 0 #[.val (.ref a), .val (.ref u)] [])
  refine own_st s₁ (mkF m_ 6 #[.val (.ref a), .val (.ref u)] [.null, (.int (2 : Int32)), (.int (0 : Int32)), (.ref u), (.ref a)]) (fun t_ k_ => ?_) ?_
  · refine XS.aloadN X0.here hx rfl (hb hby djdk_42_method_3_code_0) rfl rfl ?_
    show Steps p_.tables e_ below (s₁.setTop (mkF m_ 1 #[.val (.ref a), .val (.ref u)] [(.ref a)])) t_
    refine XS.aloadN X0.here hx rfl (hb hby djdk_42_method_3_code_1) rfl rfl ?_
    show Steps p_.tables e_ below (s₁.setTop (mkF m_ 2 #[.val (.ref a), .val (.ref u)] [(.ref u), (.ref a)])) t_
    refine XS.iconst X0.here hx rfl (hb hby djdk_42_method_3_code_2) ?_
    show Steps p_.tables e_ below (s₁.setTop (mkF m_ 3 #[.val (.ref a), .val (.ref u)] [(.int (0 : Int32)), (.ref u), (.ref a)])) t_
    refine XS.aloadN X0.here hx rfl (hb hby djdk_42_method_3_code_3) rfl rfl ?_
    show Steps p_.tables e_ below (s₁.setTop (mkF m_ 4 #[.val (.ref a), .val (.ref u)] [(.ref u), (.int (0 : Int32)), (.ref u), (.ref a)])) t_
    refine own_len X0 hx hZ e0 A_u (hb hby djdk_42_method_3_code_4) (2 : Int32) (by decide) _ ?_
    show Steps p_.tables e_ below (s₁.setTop (mkF m_ 5 #[.val (.ref a), .val (.ref u)] [(.int (2 : Int32)), (.int (0 : Int32)), (.ref u), (.ref a)])) t_
    refine XS.aconstNull X0.here hx rfl (hb hby djdk_42_method_3_code_5) ?_
    show Steps p_.tables e_ below (s₁.setTop (mkF m_ 6 #[.val (.ref a), .val (.ref u)] [.null, (.int (2 : Int32)), (.int (0 : Int32)), (.ref u), (.ref a)])) t_
    exact k_
  refine own_callC X0 hx hZ rfl hown (hw _ (List.mem_of_getElem? (i := 7) rfl)) (hw _ (List.mem_of_getElem? (i := 8) rfl)) (hw _ (List.mem_of_getElem? (i := 3) rfl)) (hw _ (List.mem_of_getElem? (i := 10) rfl)) (by decide) a [(.ref u), (.int (0 : Int32)), (.int (2 : Int32)), .null] [] (rm2_2 l Z a0 hw a u ku cs c0 c1 h0 n0 Z0 O S_CS hcs E_a F_value_a F_coder_a g_a A_u ne_u_a hc0 hc1) 0 (by decide) (by decide) e0 (by rw [hml]; rfl) (lenOf own_pd3 rfl) rfl (Nat.le_of_eq rfl) (hb hby djdk_42_method_3_code_6) (by decide) (by decide) ?_
  intro v1 T1 L1 X1 q1
  obtain ⟨rfl, N1q, K1⟩ := q1
  have N1 := Fr.app N0 N1q
  replace KP := KP.trans K1 (allS (Or.inl (List.mem_of_getElem? (i := 0) rfl)) all0)
  replace O := O.keep K1 (allS g_a all0)
  replace E_a := E_a.keep K1
  -- F_value_a is dropped: written by the callee
  -- F_coder_a is dropped: written by the callee
  replace A_u := A_u.keep K1 (ninS ne_u_a nin0)
  replace Z0 : n0 ≤ T1.heap.size := Nat.le_trans Z0 K1.1
  show own_Out p_ e_ below _ _ _ _ T1 (mkF m_ 9 #[.val (.ref a), .val (.ref u)] [])
  refine own_ret0 X1 hx hlk hret (hb hby djdk_42_method_3_code_9) (by decide) (by decide) ?_
  exact ⟨rfl, N1, KP⟩
theorem ef_rm5_3 (m_ : MethodId) (a : Addr) (d : Addr) : entryFrame m_ #[(.ref a), (.int (0 : Int32)), (.ref d), (.int (0 : Int32)), (.int (3 : Int32))] 7 = mkF m_ 0 #[.val (.ref a), .val (.int (0 : Int32)), .val (.ref d), .val (.int (0 : Int32)), .val (.int (3 : Int32)), .unset, .unset] [] := by first | (simp [entryFrame, mkF, argsToLocals, Value.category]; done) | rfl
set_option maxRecDepth 65536 in
set_option maxHeartbeats 40000000 in
theorem rm5_3 (l : Launch) (Z : State) (a0 : Array Value) (hw : ∀ d ∈ tables_1, d.before a0 Z = true) (a : Addr) (d : Addr) (ka kd : ClassId) (c0 c1 c2 : Int32) (h0 : Heap) (n0 : Nat) (Z0 : n0 ≤ h0.size) (A_a : own_A Z h0 a ka .char 3 (fun x_ => .int (([c0, c1, c2] : List Int32).getD x_ 0))) (A_d : own_A Z h0 d kd .byte 3 (fun x_ => .int (([(0 : Int32), (0 : Int32), (0 : Int32)] : List Int32).getD x_ 0))) (ne_a_d : a ≠ d) (g_d : n0 ≤ d) (hc0 : ¬ (255 : Int32) < c0) (hc1 : ¬ (255 : Int32) < c1) (hc2 : ¬ (255 : Int32) < c2) :
    own_Met l Z (⟨"java/lang/StringUTF16", "compress", "([CI[BII)I"⟩ : MethodName) jdk_52_method_21_code 7 (some .int) ({ frames := 0, cells := 0, slots := 0, locals := 0 } : Room) #[(.ref a), (.int (0 : Int32)), (.ref d), (.int (0 : Int32)), (.int (3 : Int32))] h0 (fun v h L => v = some (.int (3 : Int32)) ∧ Fr n0 L ∧ Keep h0 h [d] ∧ own_A Z h d kd .byte 3 (fun x_ => .int (([(c0.toInt8.toInt32), (c1.toInt8.toInt32), (c2.toInt8.toInt32)] : List Int32).getD x_ 0))) := by
  refine own_body #[.val (.ref a), .val (.int (0 : Int32)), .val (.ref d), .val (.int (0 : Int32)), .val (.int (3 : Int32)), .unset, .unset] (plainFor_of_name own_pn0) (fun m_ => ef_rm5_3 m_ a d) ?_
  intro p_ e_ s_ m_ below meth c_ s₁ X0 hx hby hml hret hlk hZ hown hnm e0
  have N0 := Fr.nil n0
  have KP := Keep.refl h0 [d]
  show own_Out p_ e_ below s_ _ _ _ s₁ (mkF m_ 0 #[.val (.ref a), .val (.int (0 : Int32)), .val (.ref d), .val (.int (0 : Int32)), .val (.int (3 : Int32)), .unset, .unset] [])
  refine own_st s₁ (mkF m_ 31 #[.val (.ref a), .val (.int (0 : Int32)), .val (.ref d), .val (.int (0 : Int32)), .val (.int (3 : Int32)), .val (.int (0 : Int32)), .val (.int c0)] [(.int (c0.toInt8.toInt32)), (.int (0 : Int32)), (.ref d)]) (fun t_ k_ => ?_) ?_
  · refine XS.iconst X0.here hx rfl (hb hby djdk_52_method_21_code_0) ?_
    show Steps p_.tables e_ below (s₁.setTop (mkF m_ 1 #[.val (.ref a), .val (.int (0 : Int32)), .val (.ref d), .val (.int (0 : Int32)), .val (.int (3 : Int32)), .unset, .unset] [(.int (0 : Int32))])) t_
    refine XS.istore X0.here hx rfl (hb hby djdk_52_method_21_code_1) rfl (l' := #[.val (.ref a), .val (.int (0 : Int32)), .val (.ref d), .val (.int (0 : Int32)), .val (.int (3 : Int32)), .val (.int (0 : Int32)), .unset]) rfl ?_
    show Steps p_.tables e_ below (s₁.setTop (mkF m_ 3 #[.val (.ref a), .val (.int (0 : Int32)), .val (.ref d), .val (.int (0 : Int32)), .val (.int (3 : Int32)), .val (.int (0 : Int32)), .unset] [])) t_
    refine XS.iload X0.here hx rfl (hb hby djdk_52_method_21_code_3) rfl ?_
    show Steps p_.tables e_ below (s₁.setTop (mkF m_ 5 #[.val (.ref a), .val (.int (0 : Int32)), .val (.ref d), .val (.int (0 : Int32)), .val (.int (3 : Int32)), .val (.int (0 : Int32)), .unset] [(.int (0 : Int32))])) t_
    refine XS.iload X0.here hx rfl (hb hby djdk_52_method_21_code_5) rfl ?_
    show Steps p_.tables e_ below (s₁.setTop (mkF m_ 7 #[.val (.ref a), .val (.int (0 : Int32)), .val (.ref d), .val (.int (0 : Int32)), .val (.int (3 : Int32)), .val (.int (0 : Int32)), .unset] [(.int (3 : Int32)), (.int (0 : Int32))])) t_
    refine XS.icmpNo X0.here hx rfl (hb hby djdk_52_method_21_code_7) rfl (tlt (by decide : (0 : Int32) < (3 : Int32))).2.1 ?_
    show Steps p_.tables e_ below (s₁.setTop (mkF m_ 10 #[.val (.ref a), .val (.int (0 : Int32)), .val (.ref d), .val (.int (0 : Int32)), .val (.int (3 : Int32)), .val (.int (0 : Int32)), .unset] [])) t_
    refine XS.aloadN X0.here hx rfl (hb hby djdk_52_method_21_code_10) rfl rfl ?_
    show Steps p_.tables e_ below (s₁.setTop (mkF m_ 11 #[.val (.ref a), .val (.int (0 : Int32)), .val (.ref d), .val (.int (0 : Int32)), .val (.int (3 : Int32)), .val (.int (0 : Int32)), .unset] [(.ref a)])) t_
    refine XS.iloadN X0.here hx rfl (hb hby djdk_52_method_21_code_11) rfl ?_
    show Steps p_.tables e_ below (s₁.setTop (mkF m_ 12 #[.val (.ref a), .val (.int (0 : Int32)), .val (.ref d), .val (.int (0 : Int32)), .val (.int (3 : Int32)), .val (.int (0 : Int32)), .unset] [(.int (0 : Int32)), (.ref a)])) t_
    refine own_ldC X0 hx hZ e0 A_a 0 (by decide) (by decide) (hb hby djdk_52_method_21_code_12) _ ?_
    show Steps p_.tables e_ below (s₁.setTop (mkF m_ 13 #[.val (.ref a), .val (.int (0 : Int32)), .val (.ref d), .val (.int (0 : Int32)), .val (.int (3 : Int32)), .val (.int (0 : Int32)), .unset] [(.int c0)])) t_
    refine XS.istore X0.here hx rfl (hb hby djdk_52_method_21_code_13) rfl (l' := #[.val (.ref a), .val (.int (0 : Int32)), .val (.ref d), .val (.int (0 : Int32)), .val (.int (3 : Int32)), .val (.int (0 : Int32)), .val (.int c0)]) rfl ?_
    show Steps p_.tables e_ below (s₁.setTop (mkF m_ 15 #[.val (.ref a), .val (.int (0 : Int32)), .val (.ref d), .val (.int (0 : Int32)), .val (.int (3 : Int32)), .val (.int (0 : Int32)), .val (.int c0)] [])) t_
    refine XS.iload X0.here hx rfl (hb hby djdk_52_method_21_code_15) rfl ?_
    show Steps p_.tables e_ below (s₁.setTop (mkF m_ 17 #[.val (.ref a), .val (.int (0 : Int32)), .val (.ref d), .val (.int (0 : Int32)), .val (.int (3 : Int32)), .val (.int (0 : Int32)), .val (.int c0)] [(.int c0)])) t_
    refine XS.sipush X0.here hx rfl (hb hby djdk_52_method_21_code_17) ?_
    show Steps p_.tables e_ below (s₁.setTop (mkF m_ 20 #[.val (.ref a), .val (.int (0 : Int32)), .val (.ref d), .val (.int (0 : Int32)), .val (.int (3 : Int32)), .val (.int (0 : Int32)), .val (.int c0)] [(.int (255 : Int32)), (.int c0)])) t_
    refine XS.icmpYes X0.here hx rfl (pc0 := 20) (pc' := 26) rfl (hb hby djdk_52_method_21_code_20) rfl (flt (hc0 : ¬ ((255 : Int32) < c0))).2.2.2 (by decide) (by decide) ?_
    show Steps p_.tables e_ below (s₁.setTop (mkF m_ 26 #[.val (.ref a), .val (.int (0 : Int32)), .val (.ref d), .val (.int (0 : Int32)), .val (.int (3 : Int32)), .val (.int (0 : Int32)), .val (.int c0)] [])) t_
    refine XS.aloadN X0.here hx rfl (hb hby djdk_52_method_21_code_26) rfl rfl ?_
    show Steps p_.tables e_ below (s₁.setTop (mkF m_ 27 #[.val (.ref a), .val (.int (0 : Int32)), .val (.ref d), .val (.int (0 : Int32)), .val (.int (3 : Int32)), .val (.int (0 : Int32)), .val (.int c0)] [(.ref d)])) t_
    refine XS.iloadN X0.here hx rfl (hb hby djdk_52_method_21_code_27) rfl ?_
    show Steps p_.tables e_ below (s₁.setTop (mkF m_ 28 #[.val (.ref a), .val (.int (0 : Int32)), .val (.ref d), .val (.int (0 : Int32)), .val (.int (3 : Int32)), .val (.int (0 : Int32)), .val (.int c0)] [(.int (0 : Int32)), (.ref d)])) t_
    refine XS.iload X0.here hx rfl (hb hby djdk_52_method_21_code_28) rfl ?_
    show Steps p_.tables e_ below (s₁.setTop (mkF m_ 30 #[.val (.ref a), .val (.int (0 : Int32)), .val (.ref d), .val (.int (0 : Int32)), .val (.int (3 : Int32)), .val (.int (0 : Int32)), .val (.int c0)] [(.int c0), (.int (0 : Int32)), (.ref d)])) t_
    refine XS.i2b X0.here hx rfl (hb hby djdk_52_method_21_code_30) rfl ?_
    show Steps p_.tables e_ below (s₁.setTop (mkF m_ 31 #[.val (.ref a), .val (.int (0 : Int32)), .val (.ref d), .val (.int (0 : Int32)), .val (.int (3 : Int32)), .val (.int (0 : Int32)), .val (.int c0)] [(.int (c0.toInt8.toInt32)), (.int (0 : Int32)), (.ref d)])) t_
    exact k_
  obtain ⟨T1, h1, X1, e1, W1, st1⟩ := own_stB X0 hx hZ e0 A_d (c0.toInt8.toInt32) (own_nb _) 0 (by decide) (by decide) (j := (0 : Int32)) (x := (c0.toInt8.toInt32)) (Ls := #[.val (.ref a), .val (.int (0 : Int32)), .val (.ref d), .val (.int (0 : Int32)), .val (.int (3 : Int32)), .val (.int (0 : Int32)), .val (.int c0)]) (rest := []) (hb hby djdk_52_method_21_code_31)
  have N1 := Fr.snoc X1 N0 g_d
  replace Z0 : n0 ≤ h1.size := W1.size ▸ Z0
  replace KP := KP.wr W1 (Or.inl (List.mem_of_getElem? (i := 0) rfl))
  replace A_a := A_a.other W1 ne_a_d
  replace A_d : own_A Z h1 d kd .byte 3 (fun x_ => .int (([(c0.toInt8.toInt32), (0 : Int32), (0 : Int32)] : List Int32).getD x_ 0)) := A_d.setLI (by decide) (Nat.le_of_ble_eq_true rfl) W1
  refine own_st T1 (mkF m_ 32 #[.val (.ref a), .val (.int (0 : Int32)), .val (.ref d), .val (.int (0 : Int32)), .val (.int (3 : Int32)), .val (.int (0 : Int32)), .val (.int c0)] []) st1 ?_
  refine own_st T1 (mkF m_ 31 #[.val (.ref a), .val (.int (1 : Int32)), .val (.ref d), .val (.int (1 : Int32)), .val (.int (3 : Int32)), .val (.int (1 : Int32)), .val (.int c1)] [(.int (c1.toInt8.toInt32)), (.int (1 : Int32)), (.ref d)]) (fun t_ k_ => ?_) ?_
  · refine XS.iinc X1.here hx rfl (hb hby djdk_52_method_21_code_32) rfl (l' := #[.val (.ref a), .val (.int (1 : Int32)), .val (.ref d), .val (.int (0 : Int32)), .val (.int (3 : Int32)), .val (.int (0 : Int32)), .val (.int c0)]) rfl ?_
    show Steps p_.tables e_ below (T1.setTop (mkF m_ 35 #[.val (.ref a), .val (.int (1 : Int32)), .val (.ref d), .val (.int (0 : Int32)), .val (.int (3 : Int32)), .val (.int (0 : Int32)), .val (.int c0)] [])) t_
    refine XS.iinc X1.here hx rfl (hb hby djdk_52_method_21_code_35) rfl (l' := #[.val (.ref a), .val (.int (1 : Int32)), .val (.ref d), .val (.int (1 : Int32)), .val (.int (3 : Int32)), .val (.int (0 : Int32)), .val (.int c0)]) rfl ?_
    show Steps p_.tables e_ below (T1.setTop (mkF m_ 38 #[.val (.ref a), .val (.int (1 : Int32)), .val (.ref d), .val (.int (1 : Int32)), .val (.int (3 : Int32)), .val (.int (0 : Int32)), .val (.int c0)] [])) t_
    refine XS.iinc X1.here hx rfl (hb hby djdk_52_method_21_code_38) rfl (l' := #[.val (.ref a), .val (.int (1 : Int32)), .val (.ref d), .val (.int (1 : Int32)), .val (.int (3 : Int32)), .val (.int (1 : Int32)), .val (.int c0)]) rfl ?_
    show Steps p_.tables e_ below (T1.setTop (mkF m_ 41 #[.val (.ref a), .val (.int (1 : Int32)), .val (.ref d), .val (.int (1 : Int32)), .val (.int (3 : Int32)), .val (.int (1 : Int32)), .val (.int c0)] [])) t_
    refine XS.goto X1.here hx rfl (pc0 := 41) (pc' := 3) rfl (hb hby djdk_52_method_21_code_41) (by decide) (by decide) ?_
    show Steps p_.tables e_ below (T1.setTop (mkF m_ 3 #[.val (.ref a), .val (.int (1 : Int32)), .val (.ref d), .val (.int (1 : Int32)), .val (.int (3 : Int32)), .val (.int (1 : Int32)), .val (.int c0)] [])) t_
    refine XS.iload X1.here hx rfl (hb hby djdk_52_method_21_code_3) rfl ?_
    show Steps p_.tables e_ below (T1.setTop (mkF m_ 5 #[.val (.ref a), .val (.int (1 : Int32)), .val (.ref d), .val (.int (1 : Int32)), .val (.int (3 : Int32)), .val (.int (1 : Int32)), .val (.int c0)] [(.int (1 : Int32))])) t_
    refine XS.iload X1.here hx rfl (hb hby djdk_52_method_21_code_5) rfl ?_
    show Steps p_.tables e_ below (T1.setTop (mkF m_ 7 #[.val (.ref a), .val (.int (1 : Int32)), .val (.ref d), .val (.int (1 : Int32)), .val (.int (3 : Int32)), .val (.int (1 : Int32)), .val (.int c0)] [(.int (3 : Int32)), (.int (1 : Int32))])) t_
    refine XS.icmpNo X1.here hx rfl (hb hby djdk_52_method_21_code_7) rfl (tlt (by decide : (1 : Int32) < (3 : Int32))).2.1 ?_
    show Steps p_.tables e_ below (T1.setTop (mkF m_ 10 #[.val (.ref a), .val (.int (1 : Int32)), .val (.ref d), .val (.int (1 : Int32)), .val (.int (3 : Int32)), .val (.int (1 : Int32)), .val (.int c0)] [])) t_
    refine XS.aloadN X1.here hx rfl (hb hby djdk_52_method_21_code_10) rfl rfl ?_
    show Steps p_.tables e_ below (T1.setTop (mkF m_ 11 #[.val (.ref a), .val (.int (1 : Int32)), .val (.ref d), .val (.int (1 : Int32)), .val (.int (3 : Int32)), .val (.int (1 : Int32)), .val (.int c0)] [(.ref a)])) t_
    refine XS.iloadN X1.here hx rfl (hb hby djdk_52_method_21_code_11) rfl ?_
    show Steps p_.tables e_ below (T1.setTop (mkF m_ 12 #[.val (.ref a), .val (.int (1 : Int32)), .val (.ref d), .val (.int (1 : Int32)), .val (.int (3 : Int32)), .val (.int (1 : Int32)), .val (.int c0)] [(.int (1 : Int32)), (.ref a)])) t_
    refine own_ldC X1 hx hZ e1 A_a 1 (by decide) (by decide) (hb hby djdk_52_method_21_code_12) _ ?_
    show Steps p_.tables e_ below (T1.setTop (mkF m_ 13 #[.val (.ref a), .val (.int (1 : Int32)), .val (.ref d), .val (.int (1 : Int32)), .val (.int (3 : Int32)), .val (.int (1 : Int32)), .val (.int c0)] [(.int c1)])) t_
    refine XS.istore X1.here hx rfl (hb hby djdk_52_method_21_code_13) rfl (l' := #[.val (.ref a), .val (.int (1 : Int32)), .val (.ref d), .val (.int (1 : Int32)), .val (.int (3 : Int32)), .val (.int (1 : Int32)), .val (.int c1)]) rfl ?_
    show Steps p_.tables e_ below (T1.setTop (mkF m_ 15 #[.val (.ref a), .val (.int (1 : Int32)), .val (.ref d), .val (.int (1 : Int32)), .val (.int (3 : Int32)), .val (.int (1 : Int32)), .val (.int c1)] [])) t_
    refine XS.iload X1.here hx rfl (hb hby djdk_52_method_21_code_15) rfl ?_
    show Steps p_.tables e_ below (T1.setTop (mkF m_ 17 #[.val (.ref a), .val (.int (1 : Int32)), .val (.ref d), .val (.int (1 : Int32)), .val (.int (3 : Int32)), .val (.int (1 : Int32)), .val (.int c1)] [(.int c1)])) t_
    refine XS.sipush X1.here hx rfl (hb hby djdk_52_method_21_code_17) ?_
    show Steps p_.tables e_ below (T1.setTop (mkF m_ 20 #[.val (.ref a), .val (.int (1 : Int32)), .val (.ref d), .val (.int (1 : Int32)), .val (.int (3 : Int32)), .val (.int (1 : Int32)), .val (.int c1)] [(.int (255 : Int32)), (.int c1)])) t_
    refine XS.icmpYes X1.here hx rfl (pc0 := 20) (pc' := 26) rfl (hb hby djdk_52_method_21_code_20) rfl (flt (hc1 : ¬ ((255 : Int32) < c1))).2.2.2 (by decide) (by decide) ?_
    show Steps p_.tables e_ below (T1.setTop (mkF m_ 26 #[.val (.ref a), .val (.int (1 : Int32)), .val (.ref d), .val (.int (1 : Int32)), .val (.int (3 : Int32)), .val (.int (1 : Int32)), .val (.int c1)] [])) t_
    refine XS.aloadN X1.here hx rfl (hb hby djdk_52_method_21_code_26) rfl rfl ?_
    show Steps p_.tables e_ below (T1.setTop (mkF m_ 27 #[.val (.ref a), .val (.int (1 : Int32)), .val (.ref d), .val (.int (1 : Int32)), .val (.int (3 : Int32)), .val (.int (1 : Int32)), .val (.int c1)] [(.ref d)])) t_
    refine XS.iloadN X1.here hx rfl (hb hby djdk_52_method_21_code_27) rfl ?_
    show Steps p_.tables e_ below (T1.setTop (mkF m_ 28 #[.val (.ref a), .val (.int (1 : Int32)), .val (.ref d), .val (.int (1 : Int32)), .val (.int (3 : Int32)), .val (.int (1 : Int32)), .val (.int c1)] [(.int (1 : Int32)), (.ref d)])) t_
    refine XS.iload X1.here hx rfl (hb hby djdk_52_method_21_code_28) rfl ?_
    show Steps p_.tables e_ below (T1.setTop (mkF m_ 30 #[.val (.ref a), .val (.int (1 : Int32)), .val (.ref d), .val (.int (1 : Int32)), .val (.int (3 : Int32)), .val (.int (1 : Int32)), .val (.int c1)] [(.int c1), (.int (1 : Int32)), (.ref d)])) t_
    refine XS.i2b X1.here hx rfl (hb hby djdk_52_method_21_code_30) rfl ?_
    show Steps p_.tables e_ below (T1.setTop (mkF m_ 31 #[.val (.ref a), .val (.int (1 : Int32)), .val (.ref d), .val (.int (1 : Int32)), .val (.int (3 : Int32)), .val (.int (1 : Int32)), .val (.int c1)] [(.int (c1.toInt8.toInt32)), (.int (1 : Int32)), (.ref d)])) t_
    exact k_
  obtain ⟨T2, h2, X2, e2, W2, st2⟩ := own_stB X1 hx hZ e1 A_d (c1.toInt8.toInt32) (own_nb _) 1 (by decide) (by decide) (j := (1 : Int32)) (x := (c1.toInt8.toInt32)) (Ls := #[.val (.ref a), .val (.int (1 : Int32)), .val (.ref d), .val (.int (1 : Int32)), .val (.int (3 : Int32)), .val (.int (1 : Int32)), .val (.int c1)]) (rest := []) (hb hby djdk_52_method_21_code_31)
  have N2 := Fr.snoc X2 N1 g_d
  replace Z0 : n0 ≤ h2.size := W2.size ▸ Z0
  replace KP := KP.wr W2 (Or.inl (List.mem_of_getElem? (i := 0) rfl))
  replace A_a := A_a.other W2 ne_a_d
  replace A_d : own_A Z h2 d kd .byte 3 (fun x_ => .int (([(c0.toInt8.toInt32), (c1.toInt8.toInt32), (0 : Int32)] : List Int32).getD x_ 0)) := A_d.setLI (by decide) (Nat.le_of_ble_eq_true rfl) W2
  refine own_st T2 (mkF m_ 32 #[.val (.ref a), .val (.int (1 : Int32)), .val (.ref d), .val (.int (1 : Int32)), .val (.int (3 : Int32)), .val (.int (1 : Int32)), .val (.int c1)] []) st2 ?_
  refine own_st T2 (mkF m_ 31 #[.val (.ref a), .val (.int (2 : Int32)), .val (.ref d), .val (.int (2 : Int32)), .val (.int (3 : Int32)), .val (.int (2 : Int32)), .val (.int c2)] [(.int (c2.toInt8.toInt32)), (.int (2 : Int32)), (.ref d)]) (fun t_ k_ => ?_) ?_
  · refine XS.iinc X2.here hx rfl (hb hby djdk_52_method_21_code_32) rfl (l' := #[.val (.ref a), .val (.int (2 : Int32)), .val (.ref d), .val (.int (1 : Int32)), .val (.int (3 : Int32)), .val (.int (1 : Int32)), .val (.int c1)]) rfl ?_
    show Steps p_.tables e_ below (T2.setTop (mkF m_ 35 #[.val (.ref a), .val (.int (2 : Int32)), .val (.ref d), .val (.int (1 : Int32)), .val (.int (3 : Int32)), .val (.int (1 : Int32)), .val (.int c1)] [])) t_
    refine XS.iinc X2.here hx rfl (hb hby djdk_52_method_21_code_35) rfl (l' := #[.val (.ref a), .val (.int (2 : Int32)), .val (.ref d), .val (.int (2 : Int32)), .val (.int (3 : Int32)), .val (.int (1 : Int32)), .val (.int c1)]) rfl ?_
    show Steps p_.tables e_ below (T2.setTop (mkF m_ 38 #[.val (.ref a), .val (.int (2 : Int32)), .val (.ref d), .val (.int (2 : Int32)), .val (.int (3 : Int32)), .val (.int (1 : Int32)), .val (.int c1)] [])) t_
    refine XS.iinc X2.here hx rfl (hb hby djdk_52_method_21_code_38) rfl (l' := #[.val (.ref a), .val (.int (2 : Int32)), .val (.ref d), .val (.int (2 : Int32)), .val (.int (3 : Int32)), .val (.int (2 : Int32)), .val (.int c1)]) rfl ?_
    show Steps p_.tables e_ below (T2.setTop (mkF m_ 41 #[.val (.ref a), .val (.int (2 : Int32)), .val (.ref d), .val (.int (2 : Int32)), .val (.int (3 : Int32)), .val (.int (2 : Int32)), .val (.int c1)] [])) t_
    refine XS.goto X2.here hx rfl (pc0 := 41) (pc' := 3) rfl (hb hby djdk_52_method_21_code_41) (by decide) (by decide) ?_
    show Steps p_.tables e_ below (T2.setTop (mkF m_ 3 #[.val (.ref a), .val (.int (2 : Int32)), .val (.ref d), .val (.int (2 : Int32)), .val (.int (3 : Int32)), .val (.int (2 : Int32)), .val (.int c1)] [])) t_
    refine XS.iload X2.here hx rfl (hb hby djdk_52_method_21_code_3) rfl ?_
    show Steps p_.tables e_ below (T2.setTop (mkF m_ 5 #[.val (.ref a), .val (.int (2 : Int32)), .val (.ref d), .val (.int (2 : Int32)), .val (.int (3 : Int32)), .val (.int (2 : Int32)), .val (.int c1)] [(.int (2 : Int32))])) t_
    refine XS.iload X2.here hx rfl (hb hby djdk_52_method_21_code_5) rfl ?_
    show Steps p_.tables e_ below (T2.setTop (mkF m_ 7 #[.val (.ref a), .val (.int (2 : Int32)), .val (.ref d), .val (.int (2 : Int32)), .val (.int (3 : Int32)), .val (.int (2 : Int32)), .val (.int c1)] [(.int (3 : Int32)), (.int (2 : Int32))])) t_
    refine XS.icmpNo X2.here hx rfl (hb hby djdk_52_method_21_code_7) rfl (tlt (by decide : (2 : Int32) < (3 : Int32))).2.1 ?_
    show Steps p_.tables e_ below (T2.setTop (mkF m_ 10 #[.val (.ref a), .val (.int (2 : Int32)), .val (.ref d), .val (.int (2 : Int32)), .val (.int (3 : Int32)), .val (.int (2 : Int32)), .val (.int c1)] [])) t_
    refine XS.aloadN X2.here hx rfl (hb hby djdk_52_method_21_code_10) rfl rfl ?_
    show Steps p_.tables e_ below (T2.setTop (mkF m_ 11 #[.val (.ref a), .val (.int (2 : Int32)), .val (.ref d), .val (.int (2 : Int32)), .val (.int (3 : Int32)), .val (.int (2 : Int32)), .val (.int c1)] [(.ref a)])) t_
    refine XS.iloadN X2.here hx rfl (hb hby djdk_52_method_21_code_11) rfl ?_
    show Steps p_.tables e_ below (T2.setTop (mkF m_ 12 #[.val (.ref a), .val (.int (2 : Int32)), .val (.ref d), .val (.int (2 : Int32)), .val (.int (3 : Int32)), .val (.int (2 : Int32)), .val (.int c1)] [(.int (2 : Int32)), (.ref a)])) t_
    refine own_ldC X2 hx hZ e2 A_a 2 (by decide) (by decide) (hb hby djdk_52_method_21_code_12) _ ?_
    show Steps p_.tables e_ below (T2.setTop (mkF m_ 13 #[.val (.ref a), .val (.int (2 : Int32)), .val (.ref d), .val (.int (2 : Int32)), .val (.int (3 : Int32)), .val (.int (2 : Int32)), .val (.int c1)] [(.int c2)])) t_
    refine XS.istore X2.here hx rfl (hb hby djdk_52_method_21_code_13) rfl (l' := #[.val (.ref a), .val (.int (2 : Int32)), .val (.ref d), .val (.int (2 : Int32)), .val (.int (3 : Int32)), .val (.int (2 : Int32)), .val (.int c2)]) rfl ?_
    show Steps p_.tables e_ below (T2.setTop (mkF m_ 15 #[.val (.ref a), .val (.int (2 : Int32)), .val (.ref d), .val (.int (2 : Int32)), .val (.int (3 : Int32)), .val (.int (2 : Int32)), .val (.int c2)] [])) t_
    refine XS.iload X2.here hx rfl (hb hby djdk_52_method_21_code_15) rfl ?_
    show Steps p_.tables e_ below (T2.setTop (mkF m_ 17 #[.val (.ref a), .val (.int (2 : Int32)), .val (.ref d), .val (.int (2 : Int32)), .val (.int (3 : Int32)), .val (.int (2 : Int32)), .val (.int c2)] [(.int c2)])) t_
    refine XS.sipush X2.here hx rfl (hb hby djdk_52_method_21_code_17) ?_
    show Steps p_.tables e_ below (T2.setTop (mkF m_ 20 #[.val (.ref a), .val (.int (2 : Int32)), .val (.ref d), .val (.int (2 : Int32)), .val (.int (3 : Int32)), .val (.int (2 : Int32)), .val (.int c2)] [(.int (255 : Int32)), (.int c2)])) t_
    refine XS.icmpYes X2.here hx rfl (pc0 := 20) (pc' := 26) rfl (hb hby djdk_52_method_21_code_20) rfl (flt (hc2 : ¬ ((255 : Int32) < c2))).2.2.2 (by decide) (by decide) ?_
    show Steps p_.tables e_ below (T2.setTop (mkF m_ 26 #[.val (.ref a), .val (.int (2 : Int32)), .val (.ref d), .val (.int (2 : Int32)), .val (.int (3 : Int32)), .val (.int (2 : Int32)), .val (.int c2)] [])) t_
    refine XS.aloadN X2.here hx rfl (hb hby djdk_52_method_21_code_26) rfl rfl ?_
    show Steps p_.tables e_ below (T2.setTop (mkF m_ 27 #[.val (.ref a), .val (.int (2 : Int32)), .val (.ref d), .val (.int (2 : Int32)), .val (.int (3 : Int32)), .val (.int (2 : Int32)), .val (.int c2)] [(.ref d)])) t_
    refine XS.iloadN X2.here hx rfl (hb hby djdk_52_method_21_code_27) rfl ?_
    show Steps p_.tables e_ below (T2.setTop (mkF m_ 28 #[.val (.ref a), .val (.int (2 : Int32)), .val (.ref d), .val (.int (2 : Int32)), .val (.int (3 : Int32)), .val (.int (2 : Int32)), .val (.int c2)] [(.int (2 : Int32)), (.ref d)])) t_
    refine XS.iload X2.here hx rfl (hb hby djdk_52_method_21_code_28) rfl ?_
    show Steps p_.tables e_ below (T2.setTop (mkF m_ 30 #[.val (.ref a), .val (.int (2 : Int32)), .val (.ref d), .val (.int (2 : Int32)), .val (.int (3 : Int32)), .val (.int (2 : Int32)), .val (.int c2)] [(.int c2), (.int (2 : Int32)), (.ref d)])) t_
    refine XS.i2b X2.here hx rfl (hb hby djdk_52_method_21_code_30) rfl ?_
    show Steps p_.tables e_ below (T2.setTop (mkF m_ 31 #[.val (.ref a), .val (.int (2 : Int32)), .val (.ref d), .val (.int (2 : Int32)), .val (.int (3 : Int32)), .val (.int (2 : Int32)), .val (.int c2)] [(.int (c2.toInt8.toInt32)), (.int (2 : Int32)), (.ref d)])) t_
    exact k_
  obtain ⟨T3, h3, X3, e3, W3, st3⟩ := own_stB X2 hx hZ e2 A_d (c2.toInt8.toInt32) (own_nb _) 2 (by decide) (by decide) (j := (2 : Int32)) (x := (c2.toInt8.toInt32)) (Ls := #[.val (.ref a), .val (.int (2 : Int32)), .val (.ref d), .val (.int (2 : Int32)), .val (.int (3 : Int32)), .val (.int (2 : Int32)), .val (.int c2)]) (rest := []) (hb hby djdk_52_method_21_code_31)
  have N3 := Fr.snoc X3 N2 g_d
  replace Z0 : n0 ≤ h3.size := W3.size ▸ Z0
  replace KP := KP.wr W3 (Or.inl (List.mem_of_getElem? (i := 0) rfl))
  replace A_a := A_a.other W3 ne_a_d
  replace A_d : own_A Z h3 d kd .byte 3 (fun x_ => .int (([(c0.toInt8.toInt32), (c1.toInt8.toInt32), (c2.toInt8.toInt32)] : List Int32).getD x_ 0)) := A_d.setLI (by decide) (Nat.le_of_ble_eq_true rfl) W3
  refine own_st T3 (mkF m_ 32 #[.val (.ref a), .val (.int (2 : Int32)), .val (.ref d), .val (.int (2 : Int32)), .val (.int (3 : Int32)), .val (.int (2 : Int32)), .val (.int c2)] []) st3 ?_
  refine own_st T3 (mkF m_ 46 #[.val (.ref a), .val (.int (3 : Int32)), .val (.ref d), .val (.int (3 : Int32)), .val (.int (3 : Int32)), .val (.int (3 : Int32)), .val (.int c2)] [(.int (3 : Int32))]) (fun t_ k_ => ?_) ?_
  · refine XS.iinc X3.here hx rfl (hb hby djdk_52_method_21_code_32) rfl (l' := #[.val (.ref a), .val (.int (3 : Int32)), .val (.ref d), .val (.int (2 : Int32)), .val (.int (3 : Int32)), .val (.int (2 : Int32)), .val (.int c2)]) rfl ?_
    show Steps p_.tables e_ below (T3.setTop (mkF m_ 35 #[.val (.ref a), .val (.int (3 : Int32)), .val (.ref d), .val (.int (2 : Int32)), .val (.int (3 : Int32)), .val (.int (2 : Int32)), .val (.int c2)] [])) t_
    refine XS.iinc X3.here hx rfl (hb hby djdk_52_method_21_code_35) rfl (l' := #[.val (.ref a), .val (.int (3 : Int32)), .val (.ref d), .val (.int (3 : Int32)), .val (.int (3 : Int32)), .val (.int (2 : Int32)), .val (.int c2)]) rfl ?_
    show Steps p_.tables e_ below (T3.setTop (mkF m_ 38 #[.val (.ref a), .val (.int (3 : Int32)), .val (.ref d), .val (.int (3 : Int32)), .val (.int (3 : Int32)), .val (.int (2 : Int32)), .val (.int c2)] [])) t_
    refine XS.iinc X3.here hx rfl (hb hby djdk_52_method_21_code_38) rfl (l' := #[.val (.ref a), .val (.int (3 : Int32)), .val (.ref d), .val (.int (3 : Int32)), .val (.int (3 : Int32)), .val (.int (3 : Int32)), .val (.int c2)]) rfl ?_
    show Steps p_.tables e_ below (T3.setTop (mkF m_ 41 #[.val (.ref a), .val (.int (3 : Int32)), .val (.ref d), .val (.int (3 : Int32)), .val (.int (3 : Int32)), .val (.int (3 : Int32)), .val (.int c2)] [])) t_
    refine XS.goto X3.here hx rfl (pc0 := 41) (pc' := 3) rfl (hb hby djdk_52_method_21_code_41) (by decide) (by decide) ?_
    show Steps p_.tables e_ below (T3.setTop (mkF m_ 3 #[.val (.ref a), .val (.int (3 : Int32)), .val (.ref d), .val (.int (3 : Int32)), .val (.int (3 : Int32)), .val (.int (3 : Int32)), .val (.int c2)] [])) t_
    refine XS.iload X3.here hx rfl (hb hby djdk_52_method_21_code_3) rfl ?_
    show Steps p_.tables e_ below (T3.setTop (mkF m_ 5 #[.val (.ref a), .val (.int (3 : Int32)), .val (.ref d), .val (.int (3 : Int32)), .val (.int (3 : Int32)), .val (.int (3 : Int32)), .val (.int c2)] [(.int (3 : Int32))])) t_
    refine XS.iload X3.here hx rfl (hb hby djdk_52_method_21_code_5) rfl ?_
    show Steps p_.tables e_ below (T3.setTop (mkF m_ 7 #[.val (.ref a), .val (.int (3 : Int32)), .val (.ref d), .val (.int (3 : Int32)), .val (.int (3 : Int32)), .val (.int (3 : Int32)), .val (.int c2)] [(.int (3 : Int32)), (.int (3 : Int32))])) t_
    refine XS.icmpYes X3.here hx rfl (pc0 := 7) (pc' := 44) rfl (hb hby djdk_52_method_21_code_7) rfl (flt (by decide : ¬ ((3 : Int32) < (3 : Int32)))).2.1 (by decide) (by decide) ?_
    show Steps p_.tables e_ below (T3.setTop (mkF m_ 44 #[.val (.ref a), .val (.int (3 : Int32)), .val (.ref d), .val (.int (3 : Int32)), .val (.int (3 : Int32)), .val (.int (3 : Int32)), .val (.int c2)] [])) t_
    refine XS.iload X3.here hx rfl (hb hby djdk_52_method_21_code_44) rfl ?_
    show Steps p_.tables e_ below (T3.setTop (mkF m_ 46 #[.val (.ref a), .val (.int (3 : Int32)), .val (.ref d), .val (.int (3 : Int32)), .val (.int (3 : Int32)), .val (.int (3 : Int32)), .val (.int c2)] [(.int (3 : Int32))])) t_
    exact k_
  refine own_retI X3 hx hlk hret (hb hby djdk_52_method_21_code_46) (by decide) (by decide) ?_
  rw [e3]
  exact ⟨rfl, N3, KP, A_d⟩
theorem ef_rm4_3 (m_ : MethodId) (a : Addr) : entryFrame m_ #[(.ref a), (.int (0 : Int32)), (.int (3 : Int32))] 6 = mkF m_ 0 #[.val (.ref a), .val (.int (0 : Int32)), .val (.int (3 : Int32)), .unset, .unset, .unset] [] := by first | (simp [entryFrame, mkF, argsToLocals, Value.category]; done) | rfl
set_option maxRecDepth 65536 in
set_option maxHeartbeats 40000000 in
theorem rm4_3 (l : Launch) (Z : State) (a0 : Array Value) (hw : ∀ d ∈ tables_1, d.before a0 Z = true) (a : Addr) (ka : ClassId) (c0 c1 c2 : Int32) (h0 : Heap) (n0 : Nat) (Z0 : n0 ≤ h0.size) (A_a : own_A Z h0 a ka .char 3 (fun x_ => .int (([c0, c1, c2] : List Int32).getD x_ 0))) (hc0 : ¬ (255 : Int32) < c0) (hc1 : ¬ (255 : Int32) < c1) (hc2 : ¬ (255 : Int32) < c2) :
    own_Met l Z (⟨"java/lang/StringUTF16", "compress", "([CII)[B"⟩ : MethodName) jdk_52_method_16_code 6 (some (.array .byte)) ({ frames := 1, cells := 1, slots := 3, locals := 18 } : Room) #[(.ref a), (.int (0 : Int32)), (.int (3 : Int32))] h0 (fun v h L => ∃ (d : Addr) (kd : ClassId), v = some (.ref d) ∧ n0 ≤ d ∧ h0.size ≤ d ∧ Fr n0 L ∧ Keep h0 h [] ∧ own_A Z h d kd .byte 3 (fun x_ => .int (([(c0.toInt8.toInt32), (c1.toInt8.toInt32), (c2.toInt8.toInt32)] : List Int32).getD x_ 0))) := by
  refine own_body #[.val (.ref a), .val (.int (0 : Int32)), .val (.int (3 : Int32)), .unset, .unset, .unset] (plainFor_of_name own_pn0) (fun m_ => ef_rm4_3 m_ a) ?_
  intro p_ e_ s_ m_ below meth c_ s₁ X0 hx hby hml hret hlk hZ hown hnm e0
  have N0 := Fr.nil n0
  have KP := Keep.refl h0 []
  show own_Out p_ e_ below s_ _ _ _ s₁ (mkF m_ 0 #[.val (.ref a), .val (.int (0 : Int32)), .val (.int (3 : Int32)), .unset, .unset, .unset] [])
  refine own_st s₁ (mkF m_ 1 #[.val (.ref a), .val (.int (0 : Int32)), .val (.int (3 : Int32)), .unset, .unset, .unset] [(.int (3 : Int32))]) (fun t_ k_ => ?_) ?_
  · refine XS.iloadN X0.here hx rfl (hb hby djdk_52_method_16_code_0) rfl ?_
    show Steps p_.tables e_ below (s₁.setTop (mkF m_ 1 #[.val (.ref a), .val (.int (0 : Int32)), .val (.int (3 : Int32)), .unset, .unset, .unset] [(.int (3 : Int32))])) t_
    exact k_
  obtain ⟨T1, h1, k1, X1, e1, E1, A1, st1⟩ := newP X0 hx hZ (hw _ (List.mem_of_getElem? (i := 19) rfl)) e0 (g := (mkF m_ 1 #[.val (.ref a), .val (.int (0 : Int32)), .val (.int (3 : Int32)), .unset, .unset, .unset] [(.int (3 : Int32))])) rfl (hb hby djdk_52_method_16_code_1) rfl (by decide) (cap := 3) (by decide) (by decide) (by decide) (by decide)
  obtain ⟨b1, g1⟩ : ∃ z, z = h0.size := ⟨_, rfl⟩
  rw [← g1] at A1 st1
  have g_b1 : n0 ≤ b1 := g1 ▸ Z0
  have sz_b1 : h0.size ≤ b1 := g1 ▸ KP.1
  have ne_a_b1 : a ≠ b1 := Nat.ne_of_lt (Nat.lt_of_lt_of_le A_a.lt (Nat.le_of_eq g1.symm))
  replace KP := KP.ext E1
  replace A_a := A_a.ext E1
  replace Z0 : n0 ≤ h1.size := Nat.le_trans Z0 E1.1
  have A_b1 : own_A Z h1 b1 k1 .byte 3 (fun x_ => .int (([(0 : Int32), (0 : Int32), (0 : Int32)] : List Int32).getD x_ 0)) := own_A.newLI A1 (by decide) 3 (by decide) rfl
  refine own_st T1 (mkF m_ 3 #[.val (.ref a), .val (.int (0 : Int32)), .val (.int (3 : Int32)), .unset, .unset, .unset] [(.ref b1)]) st1 ?_
  refine own_st T1 (mkF m_ 9 #[.val (.ref a), .val (.int (0 : Int32)), .val (.int (3 : Int32)), .val (.ref b1), .unset, .unset] [(.int (3 : Int32)), (.int (0 : Int32)), (.ref b1), (.int (0 : Int32)), (.ref a)]) (fun t_ k_ => ?_) ?_
  · refine XS.astoreN X1.here hx rfl (hb hby djdk_52_method_16_code_3) rfl rfl (l' := #[.val (.ref a), .val (.int (0 : Int32)), .val (.int (3 : Int32)), .val (.ref b1), .unset, .unset]) rfl ?_
    show Steps p_.tables e_ below (T1.setTop (mkF m_ 4 #[.val (.ref a), .val (.int (0 : Int32)), .val (.int (3 : Int32)), .val (.ref b1), .unset, .unset] [])) t_
    refine XS.aloadN X1.here hx rfl (hb hby djdk_52_method_16_code_4) rfl rfl ?_
    show Steps p_.tables e_ below (T1.setTop (mkF m_ 5 #[.val (.ref a), .val (.int (0 : Int32)), .val (.int (3 : Int32)), .val (.ref b1), .unset, .unset] [(.ref a)])) t_
    refine XS.iloadN X1.here hx rfl (hb hby djdk_52_method_16_code_5) rfl ?_
    show Steps p_.tables e_ below (T1.setTop (mkF m_ 6 #[.val (.ref a), .val (.int (0 : Int32)), .val (.int (3 : Int32)), .val (.ref b1), .unset, .unset] [(.int (0 : Int32)), (.ref a)])) t_
    refine XS.aloadN X1.here hx rfl (hb hby djdk_52_method_16_code_6) rfl rfl ?_
    show Steps p_.tables e_ below (T1.setTop (mkF m_ 7 #[.val (.ref a), .val (.int (0 : Int32)), .val (.int (3 : Int32)), .val (.ref b1), .unset, .unset] [(.ref b1), (.int (0 : Int32)), (.ref a)])) t_
    refine XS.iconst X1.here hx rfl (hb hby djdk_52_method_16_code_7) ?_
    show Steps p_.tables e_ below (T1.setTop (mkF m_ 8 #[.val (.ref a), .val (.int (0 : Int32)), .val (.int (3 : Int32)), .val (.ref b1), .unset, .unset] [(.int (0 : Int32)), (.ref b1), (.int (0 : Int32)), (.ref a)])) t_
    refine XS.iloadN X1.here hx rfl (hb hby djdk_52_method_16_code_8) rfl ?_
    show Steps p_.tables e_ below (T1.setTop (mkF m_ 9 #[.val (.ref a), .val (.int (0 : Int32)), .val (.int (3 : Int32)), .val (.ref b1), .unset, .unset] [(.int (3 : Int32)), (.int (0 : Int32)), (.ref b1), (.int (0 : Int32)), (.ref a)])) t_
    exact k_
  refine own_callS X1 hx hZ hown (hw _ (List.mem_of_getElem? (i := 20) rfl)) (hw _ (List.mem_of_getElem? (i := 21) rfl)) (hw _ (List.mem_of_getElem? (i := 17) rfl)) (hw _ (List.mem_of_getElem? (i := 22) rfl)) (by decide) [(.ref a), (.int (0 : Int32)), (.ref b1), (.int (0 : Int32)), (.int (3 : Int32))] [] (rm5_3 l Z a0 hw a b1 ka k1 c0 c1 c2 h1 n0 Z0 A_a A_b1 ne_a_b1 g_b1 hc0 hc1 hc2) 0 (by decide) (by decide) e1 (by rw [hml]; rfl) (lenOf own_pd0 rfl) rfl (Nat.le_of_eq rfl) (hb hby djdk_52_method_16_code_9) (by decide) (by decide) ?_
  intro v2 T2 L2 X2 q2
  obtain ⟨rfl, N2q, K2, Aq2⟩ := q2
  have N2 := Fr.app N0 N2q
  replace KP := KP.trans K2 (allS (Or.inr sz_b1) all0)
  replace A_a := A_a.keep K2 (ninS ne_a_b1 nin0)
  -- A_b1 is dropped: written by the callee
  replace Z0 : n0 ≤ T2.heap.size := Nat.le_trans Z0 K2.1
  have A_b1 := Aq2
  show own_Out p_ e_ below _ _ _ _ T2 (mkF m_ 12 #[.val (.ref a), .val (.int (0 : Int32)), .val (.int (3 : Int32)), .val (.ref b1), .unset, .unset] [(.int (3 : Int32))])
  refine own_st T2 (mkF m_ 58 #[.val (.ref a), .val (.int (0 : Int32)), .val (.int (3 : Int32)), .val (.ref b1), .val (.int (3 : Int32)), .unset] [(.ref b1)]) (fun t_ k_ => ?_) ?_
  · refine XS.istore X2.here hx rfl (hb hby djdk_52_method_16_code_12) rfl (l' := #[.val (.ref a), .val (.int (0 : Int32)), .val (.int (3 : Int32)), .val (.ref b1), .val (.int (3 : Int32)), .unset]) rfl ?_
    show Steps p_.tables e_ below (T2.setTop (mkF m_ 14 #[.val (.ref a), .val (.int (0 : Int32)), .val (.int (3 : Int32)), .val (.ref b1), .val (.int (3 : Int32)), .unset] [])) t_
    refine XS.iload X2.here hx rfl (hb hby djdk_52_method_16_code_14) rfl ?_
    show Steps p_.tables e_ below (T2.setTop (mkF m_ 16 #[.val (.ref a), .val (.int (0 : Int32)), .val (.int (3 : Int32)), .val (.ref b1), .val (.int (3 : Int32)), .unset] [(.int (3 : Int32))])) t_
    refine XS.iloadN X2.here hx rfl (hb hby djdk_52_method_16_code_16) rfl ?_
    show Steps p_.tables e_ below (T2.setTop (mkF m_ 17 #[.val (.ref a), .val (.int (0 : Int32)), .val (.int (3 : Int32)), .val (.ref b1), .val (.int (3 : Int32)), .unset] [(.int (3 : Int32)), (.int (3 : Int32))])) t_
    refine XS.icmpYes X2.here hx rfl (pc0 := 17) (pc' := 57) rfl (hb hby djdk_52_method_16_code_17) rfl (teq (by decide : (3 : Int32) = (3 : Int32))).1 (by decide) (by decide) ?_
    show Steps p_.tables e_ below (T2.setTop (mkF m_ 57 #[.val (.ref a), .val (.int (0 : Int32)), .val (.int (3 : Int32)), .val (.ref b1), .val (.int (3 : Int32)), .unset] [])) t_
    refine XS.aloadN X2.here hx rfl (hb hby djdk_52_method_16_code_57) rfl rfl ?_
    show Steps p_.tables e_ below (T2.setTop (mkF m_ 58 #[.val (.ref a), .val (.int (0 : Int32)), .val (.int (3 : Int32)), .val (.ref b1), .val (.int (3 : Int32)), .unset] [(.ref b1)])) t_
    exact k_
  refine own_retA X2 hx hlk hret rfl rfl (hb hby djdk_52_method_16_code_58) (by decide) (by decide) ?_
  exact ⟨b1, k1, rfl, g_b1, sz_b1, N2, KP, A_b1⟩
theorem ef_rm6_3 (m_ : MethodId) (d : Addr) : entryFrame m_ #[(.ref d), (.int (3 : Int32))] 2 = mkF m_ 0 #[.val (.ref d), .val (.int (3 : Int32))] [] := by first | (simp [entryFrame, mkF, argsToLocals, Value.category]; done) | rfl
set_option maxRecDepth 65536 in
set_option maxHeartbeats 40000000 in
theorem rm6_3 (l : Launch) (Z : State) (a0 : Array Value) (hw : ∀ d ∈ tables_1, d.before a0 Z = true) (d : Addr) (kd : ClassId) (c0 c1 c2 : Int32) (h0 : Heap) (n0 : Nat) (Z0 : n0 ≤ h0.size) (A_d : own_A Z h0 d kd .byte 3 (fun x_ => .int (([(c0.toInt8.toInt32), (c1.toInt8.toInt32), (c2.toInt8.toInt32)] : List Int32).getD x_ 0))) :
    own_Met l Z (⟨"java/lang/StringUTF16", "coderFromArrayLen", "([BI)B"⟩ : MethodName) jdk_52_method_15_code 2 (some .byte) ({ frames := 0, cells := 0, slots := 0, locals := 0 } : Room) #[(.ref d), (.int (3 : Int32))] h0 (fun v h L => v = some (.int (0 : Int32)) ∧ Fr n0 L ∧ h = h0) := by
  refine own_body #[.val (.ref d), .val (.int (3 : Int32))] (plainFor_of_name own_pn0) (fun m_ => ef_rm6_3 m_ d) ?_
  intro p_ e_ s_ m_ below meth c_ s₁ X0 hx hby hml hret hlk hZ hown hnm e0
  have N0 := Fr.nil n0
  show own_Out p_ e_ below s_ _ _ _ s₁ (mkF m_ 0 #[.val (.ref d), .val (.int (3 : Int32))] [])
  refine own_st s₁ (mkF m_ 8 #[.val (.ref d), .val (.int (3 : Int32))] [(.int ((0 : Int32).toInt8.toInt32))]) (fun t_ k_ => ?_) ?_
  · refine XS.iloadN X0.here hx rfl (hb hby djdk_52_method_15_code_0) rfl ?_
    show Steps p_.tables e_ below (s₁.setTop (mkF m_ 1 #[.val (.ref d), .val (.int (3 : Int32))] [(.int (3 : Int32))])) t_
    refine XS.aloadN X0.here hx rfl (hb hby djdk_52_method_15_code_1) rfl rfl ?_
    show Steps p_.tables e_ below (s₁.setTop (mkF m_ 2 #[.val (.ref d), .val (.int (3 : Int32))] [(.ref d), (.int (3 : Int32))])) t_
    refine own_len X0 hx hZ e0 A_d (hb hby djdk_52_method_15_code_2) (3 : Int32) (by decide) _ ?_
    show Steps p_.tables e_ below (s₁.setTop (mkF m_ 3 #[.val (.ref d), .val (.int (3 : Int32))] [(.int (3 : Int32)), (.int (3 : Int32))])) t_
    refine XS.isub X0.here hx rfl (hb hby djdk_52_method_15_code_3) rfl ?_
    show Steps p_.tables e_ below (s₁.setTop (mkF m_ 4 #[.val (.ref d), .val (.int (3 : Int32))] [(.int (0 : Int32))])) t_
    refine XS.bipush X0.here hx rfl (hb hby djdk_52_method_15_code_4) ?_
    show Steps p_.tables e_ below (s₁.setTop (mkF m_ 6 #[.val (.ref d), .val (.int (3 : Int32))] [(.int (31 : Int32)), (.int (0 : Int32))])) t_
    refine XS.iushr X0.here hx rfl (hb hby djdk_52_method_15_code_6) rfl ?_
    show Steps p_.tables e_ below (s₁.setTop (mkF m_ 7 #[.val (.ref d), .val (.int (3 : Int32))] [(.int (0 : Int32))])) t_
    refine XS.i2b X0.here hx rfl (hb hby djdk_52_method_15_code_7) rfl ?_
    show Steps p_.tables e_ below (s₁.setTop (mkF m_ 8 #[.val (.ref d), .val (.int (3 : Int32))] [(.int ((0 : Int32).toInt8.toInt32))])) t_
    exact k_
  refine own_retN X0 hx hlk (t := .byte) hret (by simp) (hb hby djdk_52_method_15_code_8) (by decide) (by decide) ?_
  rw [e0]
  exact ⟨rfl, N0, rfl⟩
theorem ef_rm2_3 (m_ : MethodId) (a : Addr) (u : Addr) : entryFrame m_ #[(.ref a), (.ref u), (.int (0 : Int32)), (.int (3 : Int32)), .null] 6 = mkF m_ 0 #[.val (.ref a), .val (.ref u), .val (.int (0 : Int32)), .val (.int (3 : Int32)), .val .null, .unset] [] := by first | (simp [entryFrame, mkF, argsToLocals, Value.category]; done) | rfl
set_option maxRecDepth 65536 in
set_option maxHeartbeats 40000000 in
theorem rm2_3 (l : Launch) (Z : State) (a0 : Array Value) (hw : ∀ d ∈ tables_1, d.before a0 Z = true) (a : Addr) (u : Addr) (ku : ClassId) (cs : Int32) (c0 c1 c2 : Int32) (h0 : Heap) (n0 : Nat) (Z0 : n0 ≤ h0.size) (O : Old Z n0 h0) (S_CS : Sta Z Z.heap "java/lang/String" "COMPACT_STRINGS" "Z" (.int cs)) (hcs : ¬ cs = (0 : Int32)) (E_a : Exa Z h0 a "java/lang/String") (F_value_a : Fld Z h0 a "java/lang/String" "value" "[B" .null) (F_coder_a : Fld Z h0 a "java/lang/String" "coder" "B" (.int (0 : Int32))) (g_a : n0 ≤ a) (A_u : own_A Z h0 u ku .char 3 (fun x_ => .int (([c0, c1, c2] : List Int32).getD x_ 0))) (ne_u_a : u ≠ a) (hc0 : ¬ (255 : Int32) < c0) (hc1 : ¬ (255 : Int32) < c1) (hc2 : ¬ (255 : Int32) < c2) :
    own_Met l Z (⟨"java/lang/String", "<init>", "([CIILjava/lang/Void;)V"⟩ : MethodName) jdk_42_method_149_code 6 none ({ frames := 2, cells := 1, slots := 3, locals := 35 } : Room) #[(.ref a), (.ref u), (.int (0 : Int32)), (.int (3 : Int32)), .null] h0 (fun v h L => v = none ∧ Fr n0 L ∧ Keep h0 h [a]) := by
  refine own_body #[.val (.ref a), .val (.ref u), .val (.int (0 : Int32)), .val (.int (3 : Int32)), .val .null, .unset] (plainFor_of_name own_pn1) (fun m_ => ef_rm2_3 m_ a u) ?_
  intro p_ e_ s_ m_ below meth c_ s₁ X0 hx hby hml hret hlk hZ hown hnm e0
  have N0 := Fr.nil n0
  have KP := Keep.refl h0 [a]
  show own_Out p_ e_ below s_ _ _ _ s₁ (mkF m_ 0 #[.val (.ref a), .val (.ref u), .val (.int (0 : Int32)), .val (.int (3 : Int32)), .val .null, .unset] [])
  refine own_st s₁ (mkF m_ 1 #[.val (.ref a), .val (.ref u), .val (.int (0 : Int32)), .val (.int (3 : Int32)), .val .null, .unset] [(.ref a)]) (fun t_ k_ => ?_) ?_
  · refine XS.aloadN X0.here hx rfl (hb hby djdk_42_method_149_code_0) rfl rfl ?_
    show Steps p_.tables e_ below (s₁.setTop (mkF m_ 1 #[.val (.ref a), .val (.ref u), .val (.int (0 : Int32)), .val (.int (3 : Int32)), .val .null, .unset] [(.ref a)])) t_
    exact k_
  obtain ⟨T1, X1, e1, st1⟩ := initO X0 hx hZ hown (hw _ (List.mem_of_getElem? (i := 11) rfl)) (hw _ (List.mem_of_getElem? (i := 12) rfl)) (hw _ (List.mem_of_getElem? (i := 13) rfl)) e0 (g := (mkF m_ 1 #[.val (.ref a), .val (.ref u), .val (.int (0 : Int32)), .val (.int (3 : Int32)), .val .null, .unset] [(.ref a)])) rfl (by rw [hml]; rfl) rfl (hb hby djdk_42_method_149_code_1) (by decide) (W := 0) (by show 2 * 0 + _ ≤ _; exact Nat.le_of_eq rfl) (by decide)
  refine own_st T1 (mkF m_ 4 #[.val (.ref a), .val (.ref u), .val (.int (0 : Int32)), .val (.int (3 : Int32)), .val .null, .unset] []) st1 ?_
  refine own_st T1 (mkF m_ 27 #[.val (.ref a), .val (.ref u), .val (.int (0 : Int32)), .val (.int (3 : Int32)), .val .null, .unset] []) (fun t_ k_ => ?_) ?_
  · refine XS.iloadN X1.here hx rfl (hb hby djdk_42_method_149_code_4) rfl ?_
    show Steps p_.tables e_ below (T1.setTop (mkF m_ 5 #[.val (.ref a), .val (.ref u), .val (.int (0 : Int32)), .val (.int (3 : Int32)), .val .null, .unset] [(.int (3 : Int32))])) t_
    refine XS.ifYes X1.here hx rfl (pc0 := 5) (pc' := 27) rfl (hb hby djdk_42_method_149_code_5) rfl ((if0 _ _).trans (feq (by decide : ¬ ((3 : Int32) = (0 : Int32)))).2) (by decide) (by decide) ?_
    show Steps p_.tables e_ below (T1.setTop (mkF m_ 27 #[.val (.ref a), .val (.ref u), .val (.int (0 : Int32)), .val (.int (3 : Int32)), .val .null, .unset] [])) t_
    exact k_
  obtain ⟨T2, X2, e2, st2⟩ := getS2 X1 hx hZ hown (host := "") (Or.inl (hw _ (List.mem_of_getElem? (i := 14) rfl))) Via.refl e1 (S_CS.ext O.2) (g := (mkF m_ 27 #[.val (.ref a), .val (.ref u), .val (.int (0 : Int32)), .val (.int (3 : Int32)), .val .null, .unset] [])) rfl (hb hby djdk_42_method_149_code_27)
  refine own_st T2 (mkF m_ 30 #[.val (.ref a), .val (.ref u), .val (.int (0 : Int32)), .val (.int (3 : Int32)), .val .null, .unset] [(.int cs)]) st2 ?_
  refine own_st T2 (mkF m_ 36 #[.val (.ref a), .val (.ref u), .val (.int (0 : Int32)), .val (.int (3 : Int32)), .val .null, .unset] [(.int (3 : Int32)), (.int (0 : Int32)), (.ref u)]) (fun t_ k_ => ?_) ?_
  · refine XS.ifNo X2.here hx rfl (hb hby djdk_42_method_149_code_30) rfl ((if0 _ _).trans (feq (hcs : ¬ (cs = (0 : Int32)))).1) ?_
    show Steps p_.tables e_ below (T2.setTop (mkF m_ 33 #[.val (.ref a), .val (.ref u), .val (.int (0 : Int32)), .val (.int (3 : Int32)), .val .null, .unset] [])) t_
    refine XS.aloadN X2.here hx rfl (hb hby djdk_42_method_149_code_33) rfl rfl ?_
    show Steps p_.tables e_ below (T2.setTop (mkF m_ 34 #[.val (.ref a), .val (.ref u), .val (.int (0 : Int32)), .val (.int (3 : Int32)), .val .null, .unset] [(.ref u)])) t_
    refine XS.iloadN X2.here hx rfl (hb hby djdk_42_method_149_code_34) rfl ?_
    show Steps p_.tables e_ below (T2.setTop (mkF m_ 35 #[.val (.ref a), .val (.ref u), .val (.int (0 : Int32)), .val (.int (3 : Int32)), .val .null, .unset] [(.int (0 : Int32)), (.ref u)])) t_
    refine XS.iloadN X2.here hx rfl (hb hby djdk_42_method_149_code_35) rfl ?_
    show Steps p_.tables e_ below (T2.setTop (mkF m_ 36 #[.val (.ref a), .val (.ref u), .val (.int (0 : Int32)), .val (.int (3 : Int32)), .val .null, .unset] [(.int (3 : Int32)), (.int (0 : Int32)), (.ref u)])) t_
    exact k_
  refine own_callS X2 hx hZ hown (hw _ (List.mem_of_getElem? (i := 15) rfl)) (hw _ (List.mem_of_getElem? (i := 16) rfl)) (hw _ (List.mem_of_getElem? (i := 17) rfl)) (hw _ (List.mem_of_getElem? (i := 18) rfl)) (by decide) [(.ref u), (.int (0 : Int32)), (.int (3 : Int32))] [] (rm4_3 l Z a0 hw u ku c0 c1 c2 h0 n0 Z0 A_u hc0 hc1 hc2) 0 (by decide) (by decide) e2 (by rw [hml]; rfl) (lenOf own_pd1 rfl) rfl (Nat.le_of_eq rfl) (hb hby djdk_42_method_149_code_36) (by decide) (by decide) ?_
  intro v3 T3 L3 X3 q3
  obtain ⟨d3, kd3, rfl, g_d3, sz3, N3q, K3, A_d3⟩ := q3
  have N3 := Fr.app N0 N3q
  have ne_a_d3 : a ≠ d3 := Nat.ne_of_lt (Nat.lt_of_lt_of_le E_a.lt sz3)
  have ne_u_d3 : u ≠ d3 := Nat.ne_of_lt (Nat.lt_of_lt_of_le A_u.lt sz3)
  replace KP := KP.trans K3 all0
  replace O := O.keep K3 all0
  replace E_a := E_a.keep K3
  replace F_value_a := F_value_a.keep K3 nin0
  replace F_coder_a := F_coder_a.keep K3 nin0
  replace A_u := A_u.keep K3 nin0
  replace Z0 : n0 ≤ T3.heap.size := Nat.le_trans Z0 K3.1
  show own_Out p_ e_ below _ _ _ _ T3 (mkF m_ 39 #[.val (.ref a), .val (.ref u), .val (.int (0 : Int32)), .val (.int (3 : Int32)), .val .null, .unset] [(.ref d3)])
  refine own_st T3 (mkF m_ 45 #[.val (.ref a), .val (.ref u), .val (.int (0 : Int32)), .val (.int (3 : Int32)), .val .null, .val (.ref d3)] [(.int (3 : Int32)), (.ref d3), (.ref a)]) (fun t_ k_ => ?_) ?_
  · refine XS.astore X3.here hx rfl (hb hby djdk_42_method_149_code_39) rfl rfl (l' := #[.val (.ref a), .val (.ref u), .val (.int (0 : Int32)), .val (.int (3 : Int32)), .val .null, .val (.ref d3)]) rfl ?_
    show Steps p_.tables e_ below (T3.setTop (mkF m_ 41 #[.val (.ref a), .val (.ref u), .val (.int (0 : Int32)), .val (.int (3 : Int32)), .val .null, .val (.ref d3)] [])) t_
    refine XS.aloadN X3.here hx rfl (hb hby djdk_42_method_149_code_41) rfl rfl ?_
    show Steps p_.tables e_ below (T3.setTop (mkF m_ 42 #[.val (.ref a), .val (.ref u), .val (.int (0 : Int32)), .val (.int (3 : Int32)), .val .null, .val (.ref d3)] [(.ref a)])) t_
    refine XS.aload X3.here hx rfl (hb hby djdk_42_method_149_code_42) rfl rfl ?_
    show Steps p_.tables e_ below (T3.setTop (mkF m_ 44 #[.val (.ref a), .val (.ref u), .val (.int (0 : Int32)), .val (.int (3 : Int32)), .val .null, .val (.ref d3)] [(.ref d3), (.ref a)])) t_
    refine XS.iloadN X3.here hx rfl (hb hby djdk_42_method_149_code_44) rfl ?_
    show Steps p_.tables e_ below (T3.setTop (mkF m_ 45 #[.val (.ref a), .val (.ref u), .val (.int (0 : Int32)), .val (.int (3 : Int32)), .val .null, .val (.ref d3)] [(.int (3 : Int32)), (.ref d3), (.ref a)])) t_
    exact k_
  refine own_callS X3 hx hZ hown (hw _ (List.mem_of_getElem? (i := 23) rfl)) (hw _ (List.mem_of_getElem? (i := 24) rfl)) (hw _ (List.mem_of_getElem? (i := 17) rfl)) (hw _ (List.mem_of_getElem? (i := 25) rfl)) (by decide) [(.ref d3), (.int (3 : Int32))] [(.ref a)] (rm6_3 l Z a0 hw d3 kd3 c0 c1 c2 T3.heap n0 Z0 A_d3) 1 (by decide) (by decide) rfl (by rw [hml]; rfl) (lenOf own_pd2 rfl) rfl (Nat.le_of_eq rfl) (hb hby djdk_42_method_149_code_45) (by decide) (by decide) ?_
  intro v4 T4 L4 X4 q4
  obtain ⟨rfl, N4q, e4⟩ := q4
  have N4 := Fr.app N3 N4q
  show own_Out p_ e_ below _ _ _ _ T4 (mkF m_ 48 #[.val (.ref a), .val (.ref u), .val (.int (0 : Int32)), .val (.int (3 : Int32)), .val .null, .val (.ref d3)] [(.int (0 : Int32)), (.ref a)])
  obtain ⟨T5, h5, X5, e5, W5, st5⟩ := putFN X4 hx hZ hown (hw _ (List.mem_of_getElem? (i := 26) rfl)) Via.refl e4 F_coder_a E_a (Or.inr ⟨(hw _ (List.mem_of_getElem? (i := 27) rfl)), rfl, hnm⟩) (hw _ (List.mem_of_getElem? (i := 2) rfl)) (ty := .byte) (v' := (.int (0 : Int32))) (by decide) rfl rfl (g := (mkF m_ 48 #[.val (.ref a), .val (.ref u), .val (.int (0 : Int32)), .val (.int (3 : Int32)), .val .null, .val (.ref d3)] [(.int (0 : Int32)), (.ref a)])) rfl rfl (hb hby djdk_42_method_149_code_48)
  have N5 := Fr.snoc X5 N4 g_a
  replace Z0 : n0 ≤ h5.size := W5.size ▸ Z0
  replace KP := KP.wr W5 (Or.inl (List.mem_of_getElem? (i := 0) rfl))
  replace O := O.wr W5 g_a
  replace E_a := E_a.wr W5
  replace F_value_a := F_value_a.other W5 (Or.inr (slot_ne (Or.inr (hw _ (List.mem_of_getElem? (i := 29) rfl))) (Or.inr (hw _ (List.mem_of_getElem? (i := 27) rfl))) (by decide) (t := (.array .byte)) (t' := .byte) (by decide) (by decide)))
  replace A_u := A_u.other W5 ne_u_a
  replace A_d3 := A_d3.other W5 (Ne.symm ne_a_d3)
  replace F_coder_a := F_coder_a.same W5
  refine own_st T5 (mkF m_ 51 #[.val (.ref a), .val (.ref u), .val (.int (0 : Int32)), .val (.int (3 : Int32)), .val .null, .val (.ref d3)] []) st5 ?_
  refine own_st T5 (mkF m_ 54 #[.val (.ref a), .val (.ref u), .val (.int (0 : Int32)), .val (.int (3 : Int32)), .val .null, .val (.ref d3)] [(.ref d3), (.ref a)]) (fun t_ k_ => ?_) ?_
  · refine XS.aloadN X5.here hx rfl (hb hby djdk_42_method_149_code_51) rfl rfl ?_
    show Steps p_.tables e_ below (T5.setTop (mkF m_ 52 #[.val (.ref a), .val (.ref u), .val (.int (0 : Int32)), .val (.int (3 : Int32)), .val .null, .val (.ref d3)] [(.ref a)])) t_
    refine XS.aload X5.here hx rfl (hb hby djdk_42_method_149_code_52) rfl rfl ?_
    show Steps p_.tables e_ below (T5.setTop (mkF m_ 54 #[.val (.ref a), .val (.ref u), .val (.int (0 : Int32)), .val (.int (3 : Int32)), .val .null, .val (.ref d3)] [(.ref d3), (.ref a)])) t_
    exact k_
  obtain ⟨T6, h6, X6, e6, W6, st6⟩ := putF X5 hx hZ hown (host := "") (Or.inl (hw _ (List.mem_of_getElem? (i := 28) rfl))) Via.refl e5 F_value_a E_a (Or.inr ⟨(hw _ (List.mem_of_getElem? (i := 29) rfl)), rfl, hnm⟩) (hw _ (List.mem_of_getElem? (i := 2) rfl)) (ty := (.array .byte)) (by decide) rfl rfl (g := (mkF m_ 54 #[.val (.ref a), .val (.ref u), .val (.int (0 : Int32)), .val (.int (3 : Int32)), .val .null, .val (.ref d3)] [(.ref d3), (.ref a)])) rfl rfl (hb hby djdk_42_method_149_code_54)
  have N6 := Fr.snoc X6 N5 g_a
  replace Z0 : n0 ≤ h6.size := W6.size ▸ Z0
  replace KP := KP.wr W6 (Or.inl (List.mem_of_getElem? (i := 0) rfl))
  replace O := O.wr W6 g_a
  replace E_a := E_a.wr W6
  replace F_coder_a := F_coder_a.other W6 (Or.inr (slot_ne (Or.inr (hw _ (List.mem_of_getElem? (i := 27) rfl))) (Or.inr (hw _ (List.mem_of_getElem? (i := 29) rfl))) (by decide) (t := .byte) (t' := (.array .byte)) (by decide) (by decide)))
  replace A_u := A_u.other W6 ne_u_a
  replace A_d3 := A_d3.other W6 (Ne.symm ne_a_d3)
  replace F_value_a := F_value_a.same W6
  refine own_st T6 (mkF m_ 57 #[.val (.ref a), .val (.ref u), .val (.int (0 : Int32)), .val (.int (3 : Int32)), .val .null, .val (.ref d3)] []) st6 ?_
  refine own_ret0 X6 hx hlk hret (hb hby djdk_42_method_149_code_57) (by decide) (by decide) ?_
  rw [e6]
  exact ⟨rfl, N6, KP⟩
theorem ef_rm1_3 (m_ : MethodId) (a : Addr) (u : Addr) : entryFrame m_ #[(.ref a), (.ref u)] 2 = mkF m_ 0 #[.val (.ref a), .val (.ref u)] [] := by first | (simp [entryFrame, mkF, argsToLocals, Value.category]; done) | rfl
set_option maxRecDepth 65536 in
set_option maxHeartbeats 40000000 in
theorem rm1_3 (l : Launch) (Z : State) (a0 : Array Value) (hw : ∀ d ∈ tables_1, d.before a0 Z = true) (a : Addr) (u : Addr) (ku : ClassId) (cs : Int32) (c0 c1 c2 : Int32) (h0 : Heap) (n0 : Nat) (Z0 : n0 ≤ h0.size) (O : Old Z n0 h0) (S_CS : Sta Z Z.heap "java/lang/String" "COMPACT_STRINGS" "Z" (.int cs)) (hcs : ¬ cs = (0 : Int32)) (E_a : Exa Z h0 a "java/lang/String") (F_value_a : Fld Z h0 a "java/lang/String" "value" "[B" .null) (F_coder_a : Fld Z h0 a "java/lang/String" "coder" "B" (.int (0 : Int32))) (g_a : n0 ≤ a) (A_u : own_A Z h0 u ku .char 3 (fun x_ => .int (([c0, c1, c2] : List Int32).getD x_ 0))) (ne_u_a : u ≠ a) (hc0 : ¬ (255 : Int32) < c0) (hc1 : ¬ (255 : Int32) < c1) (hc2 : ¬ (255 : Int32) < c2) :
    own_Met l Z (⟨"java/lang/String", "<init>", "([C)V"⟩ : MethodName) jdk_42_method_3_code 2 none ({ frames := 3, cells := 1, slots := 3, locals := 52 } : Room) #[(.ref a), (.ref u)] h0 (fun v h L => v = none ∧ Fr n0 L ∧ Keep h0 h [a]) := by
  refine own_body #[.val (.ref a), .val (.ref u)] (plainFor_of_name own_pn1) (fun m_ => ef_rm1_3 m_ a u) ?_
  intro p_ e_ s_ m_ below meth c_ s₁ X0 hx hby hml hret hlk hZ hown hnm e0
  have N0 := Fr.nil n0
  have KP := Keep.refl h0 [a]
  show own_Out p_ e_ below s_ _ _ _ s₁ (mkF m_ 0 #[.val (.ref a), .val (.ref u)] [])
  refine own_st s₁ (mkF m_ 6 #[.val (.ref a), .val (.ref u)] [.null, (.int (3 : Int32)), (.int (0 : Int32)), (.ref u), (.ref a)]) (fun t_ k_ => ?_) ?_
  · refine XS.aloadN X0.here hx rfl (hb hby djdk_42_method_3_code_0) rfl rfl ?_
    show Steps p_.tables e_ below (s₁.setTop (mkF m_ 1 #[.val (.ref a), .val (.ref u)] [(.ref a)])) t_
    refine XS.aloadN X0.here hx rfl (hb hby djdk_42_method_3_code_1) rfl rfl ?_
    show Steps p_.tables e_ below (s₁.setTop (mkF m_ 2 #[.val (.ref a), .val (.ref u)] [(.ref u), (.ref a)])) t_
    refine XS.iconst X0.here hx rfl (hb hby djdk_42_method_3_code_2) ?_
    show Steps p_.tables e_ below (s₁.setTop (mkF m_ 3 #[.val (.ref a), .val (.ref u)] [(.int (0 : Int32)), (.ref u), (.ref a)])) t_
    refine XS.aloadN X0.here hx rfl (hb hby djdk_42_method_3_code_3) rfl rfl ?_
    show Steps p_.tables e_ below (s₁.setTop (mkF m_ 4 #[.val (.ref a), .val (.ref u)] [(.ref u), (.int (0 : Int32)), (.ref u), (.ref a)])) t_
    refine own_len X0 hx hZ e0 A_u (hb hby djdk_42_method_3_code_4) (3 : Int32) (by decide) _ ?_
    show Steps p_.tables e_ below (s₁.setTop (mkF m_ 5 #[.val (.ref a), .val (.ref u)] [(.int (3 : Int32)), (.int (0 : Int32)), (.ref u), (.ref a)])) t_
    refine XS.aconstNull X0.here hx rfl (hb hby djdk_42_method_3_code_5) ?_
    show Steps p_.tables e_ below (s₁.setTop (mkF m_ 6 #[.val (.ref a), .val (.ref u)] [.null, (.int (3 : Int32)), (.int (0 : Int32)), (.ref u), (.ref a)])) t_
    exact k_
  refine own_callC X0 hx hZ rfl hown (hw _ (List.mem_of_getElem? (i := 7) rfl)) (hw _ (List.mem_of_getElem? (i := 8) rfl)) (hw _ (List.mem_of_getElem? (i := 3) rfl)) (hw _ (List.mem_of_getElem? (i := 10) rfl)) (by decide) a [(.ref u), (.int (0 : Int32)), (.int (3 : Int32)), .null] [] (rm2_3 l Z a0 hw a u ku cs c0 c1 c2 h0 n0 Z0 O S_CS hcs E_a F_value_a F_coder_a g_a A_u ne_u_a hc0 hc1 hc2) 0 (by decide) (by decide) e0 (by rw [hml]; rfl) (lenOf own_pd3 rfl) rfl (Nat.le_of_eq rfl) (hb hby djdk_42_method_3_code_6) (by decide) (by decide) ?_
  intro v1 T1 L1 X1 q1
  obtain ⟨rfl, N1q, K1⟩ := q1
  have N1 := Fr.app N0 N1q
  replace KP := KP.trans K1 (allS (Or.inl (List.mem_of_getElem? (i := 0) rfl)) all0)
  replace O := O.keep K1 (allS g_a all0)
  replace E_a := E_a.keep K1
  -- F_value_a is dropped: written by the callee
  -- F_coder_a is dropped: written by the callee
  replace A_u := A_u.keep K1 (ninS ne_u_a nin0)
  replace Z0 : n0 ≤ T1.heap.size := Nat.le_trans Z0 K1.1
  show own_Out p_ e_ below _ _ _ _ T1 (mkF m_ 9 #[.val (.ref a), .val (.ref u)] [])
  refine own_ret0 X1 hx hlk hret (hb hby djdk_42_method_3_code_9) (by decide) (by decide) ?_
  exact ⟨rfl, N1, KP⟩
theorem own_wS {a0 : Array Value} {Z : State} (hw : ∀ d ∈ tables_1, d.before a0 Z = true) : ∀ a ∈ Bundle.stringAtoms, a.before a0 Z = true := by
  intro d hd
  simp only [Bundle.stringAtoms, List.mem_cons, List.not_mem_nil, or_false] at hd
  rcases hd with rfl | rfl | rfl | rfl | rfl | rfl | rfl
  · exact (hw _ (List.mem_of_getElem? (i := 3) rfl))
  · exact (hw _ (List.mem_of_getElem? (i := 2) rfl))
  · exact (hw _ (List.mem_of_getElem? (i := 19) rfl))
  · exact (hw _ (List.mem_of_getElem? (i := 29) rfl))
  · exact (hw _ (List.mem_of_getElem? (i := 27) rfl))
  · exact (hw _ (List.mem_of_getElem? (i := 52) rfl))
  · exact (hw _ (List.mem_of_getElem? (i := 53) rfl))
theorem djdk_42_method_149_code_8 : decode jdk_42_method_149_code 8 = .ok (.aload_n 0, 1) := by decide +kernel
theorem djdk_42_method_149_code_9 : decode jdk_42_method_149_code 9 = .ok (.ldc 7, 2) := by decide +kernel
theorem djdk_42_method_149_code_11 : decode jdk_42_method_149_code 11 = .ok (.getfield 9, 3) := by decide +kernel
theorem djdk_42_method_149_code_14 : decode jdk_42_method_149_code 14 = .ok (.putfield 9, 3) := by decide +kernel
theorem djdk_42_method_149_code_17 : decode jdk_42_method_149_code 17 = .ok (.aload_n 0, 1) := by decide +kernel
theorem djdk_42_method_149_code_18 : decode jdk_42_method_149_code 18 = .ok (.ldc 7, 2) := by decide +kernel
theorem djdk_42_method_149_code_20 : decode jdk_42_method_149_code 20 = .ok (.getfield 15, 3) := by decide +kernel
theorem djdk_42_method_149_code_23 : decode jdk_42_method_149_code 23 = .ok (.putfield 15, 3) := by decide +kernel
theorem djdk_42_method_149_code_26 : decode jdk_42_method_149_code 26 = .ok (.return_, 1) := by decide +kernel
theorem ef_rm2_0 (m_ : MethodId) (a : Addr) (u : Addr) : entryFrame m_ #[(.ref a), (.ref u), (.int (0 : Int32)), (.int (0 : Int32)), .null] 6 = mkF m_ 0 #[.val (.ref a), .val (.ref u), .val (.int (0 : Int32)), .val (.int (0 : Int32)), .val .null, .unset] [] := by first | (simp [entryFrame, mkF, argsToLocals, Value.category]; done) | rfl
set_option maxRecDepth 65536 in
set_option maxHeartbeats 40000000 in
theorem rm2_0 (l : Launch) (Z : State) (a0 : Array Value) (hw : ∀ d ∈ tables_1, d.before a0 Z = true) (a : Addr) (u : Addr) (h0 : Heap) (n0 : Nat) (Z0 : n0 ≤ h0.size) (O : Old Z n0 h0) (H : ConstHeld Z "java/lang/String" 7) (E_a : Exa Z h0 a "java/lang/String") (F_value_a : Fld Z h0 a "java/lang/String" "value" "[B" .null) (F_coder_a : Fld Z h0 a "java/lang/String" "coder" "B" (.int (0 : Int32))) (g_a : n0 ≤ a) :
    own_MetW l Z (⟨"java/lang/String", "<init>", "([CIILjava/lang/Void;)V"⟩ : MethodName) jdk_42_method_149_code 6 none ({ frames := 1, cells := 2, slots := 4, locals := 12 } : Room) #[(.ref a), (.ref u), (.int (0 : Int32)), (.int (0 : Int32)), .null] h0 (fun v h L => v = none ∧ Fr n0 L ∧ Keep h0 h [a]) := by
  refine own_bodyW #[.val (.ref a), .val (.ref u), .val (.int (0 : Int32)), .val (.int (0 : Int32)), .val .null, .unset] (plainFor_of_name own_pn1) (fun m_ => ef_rm2_0 m_ a u) ?_
  intro p_ e_ s_ m_ below meth c_ s₁ X0 hx hby hml hret hlk hZH hown hnm e0 hs0
  have hZ := hZH.wide
  have N0 := Fr.nil n0
  have KP := Keep.refl h0 [a]
  show own_OutW p_ e_ below s_ _ _ _ s₁ (mkF m_ 0 #[.val (.ref a), .val (.ref u), .val (.int (0 : Int32)), .val (.int (0 : Int32)), .val .null, .unset] [])
  refine own_stW s₁ (mkF m_ 1 #[.val (.ref a), .val (.ref u), .val (.int (0 : Int32)), .val (.int (0 : Int32)), .val .null, .unset] [(.ref a)]) (fun t_ k_ => ?_) ?_
  · refine XS.aloadN X0.here hx rfl (hb hby djdk_42_method_149_code_0) rfl rfl ?_
    show Steps p_.tables e_ below (s₁.setTop (mkF m_ 1 #[.val (.ref a), .val (.ref u), .val (.int (0 : Int32)), .val (.int (0 : Int32)), .val .null, .unset] [(.ref a)])) t_
    exact k_
  obtain ⟨T1, X1, e1, st1⟩ := initO X0 hx hZ hown (hw _ (List.mem_of_getElem? (i := 11) rfl)) (hw _ (List.mem_of_getElem? (i := 12) rfl)) (hw _ (List.mem_of_getElem? (i := 13) rfl)) e0 (g := (mkF m_ 1 #[.val (.ref a), .val (.ref u), .val (.int (0 : Int32)), .val (.int (0 : Int32)), .val .null, .unset] [(.ref a)])) rfl (by rw [hml]; rfl) rfl (hb hby djdk_42_method_149_code_1) (by decide) (W := 0) (by show 2 * 0 + _ ≤ _; exact Nat.le_of_eq rfl) (by decide)
  refine own_stW T1 (mkF m_ 4 #[.val (.ref a), .val (.ref u), .val (.int (0 : Int32)), .val (.int (0 : Int32)), .val .null, .unset] []) st1 ?_
  refine own_stW T1 (mkF m_ 9 #[.val (.ref a), .val (.ref u), .val (.int (0 : Int32)), .val (.int (0 : Int32)), .val .null, .unset] [(.ref a)]) (fun t_ k_ => ?_) ?_
  · refine XS.iloadN X1.here hx rfl (hb hby djdk_42_method_149_code_4) rfl ?_
    show Steps p_.tables e_ below (T1.setTop (mkF m_ 5 #[.val (.ref a), .val (.ref u), .val (.int (0 : Int32)), .val (.int (0 : Int32)), .val .null, .unset] [(.int (0 : Int32))])) t_
    refine XS.ifNo X1.here hx rfl (hb hby djdk_42_method_149_code_5) rfl ((if0 _ _).trans (teq (by decide : (0 : Int32) = (0 : Int32))).2) ?_
    show Steps p_.tables e_ below (T1.setTop (mkF m_ 8 #[.val (.ref a), .val (.ref u), .val (.int (0 : Int32)), .val (.int (0 : Int32)), .val .null, .unset] [])) t_
    refine XS.aloadN X1.here hx rfl (hb hby djdk_42_method_149_code_8) rfl rfl ?_
    show Steps p_.tables e_ below (T1.setTop (mkF m_ 9 #[.val (.ref a), .val (.ref u), .val (.int (0 : Int32)), .val (.int (0 : Int32)), .val .null, .unset] [(.ref a)])) t_
    exact k_
  obtain ⟨ca, cd, cc, T2, h2, X2, e2, E2, hS2, hZ2, hown2, hk2, F_value_ca, F_coder_ca, hcc, st2⟩ := own_ldcE X1 hx hZ hown (hw _ (List.mem_of_getElem? (i := 51) rfl)) (own_wS hw) (own_held hZH (by rw [hs0]; exact O.2) (hw _ (List.mem_of_getElem? (i := 51) rfl)) H) e1 (Ls := #[.val (.ref a), .val (.ref u), .val (.int (0 : Int32)), .val (.int (0 : Int32)), .val .null, .unset]) (st := [(.ref a)]) (hb hby djdk_42_method_149_code_9) (n := 0) (by decide) (by decide) (by decide) (by decide)
  replace KP := KP.ext E2
  replace O := O.ext E2
  replace E_a := E_a.ext E2
  replace F_value_a := F_value_a.ext E2
  replace F_coder_a := F_coder_a.ext E2
  replace Z0 : n0 ≤ h2.size := Nat.le_trans Z0 E2.1
  refine own_stW T2 (mkF m_ 11 #[.val (.ref a), .val (.ref u), .val (.int (0 : Int32)), .val (.int (0 : Int32)), .val .null, .unset] [(.ref ca), (.ref a)]) st2 ?_
  refine own_OutW.since hS2 ?_
  replace hZ := hZ2
  replace hown := hown2
  have ZK : T2.heap.size ≤ h2.size := Nat.le_of_eq (by rw [e2])
  show own_Out p_ e_ below _ _ _ _ T2 (mkF m_ 11 #[.val (.ref a), .val (.ref u), .val (.int (0 : Int32)), .val (.int (0 : Int32)), .val .null, .unset] [(.ref ca), (.ref a)])
  obtain ⟨T3, X3, e3, st3⟩ := getF X2 hx hZ hown (host := "") (Or.inl (hw _ (List.mem_of_getElem? (i := 28) rfl))) Via.refl e2 F_value_ca (g := (mkF m_ 11 #[.val (.ref a), .val (.ref u), .val (.int (0 : Int32)), .val (.int (0 : Int32)), .val .null, .unset] [(.ref ca), (.ref a)])) rfl rfl (hb hby djdk_42_method_149_code_11)
  refine own_st T3 (mkF m_ 14 #[.val (.ref a), .val (.ref u), .val (.int (0 : Int32)), .val (.int (0 : Int32)), .val .null, .unset] [(.ref cd), (.ref a)]) st3 ?_
  obtain ⟨T4, h4, X4, e4, W4, st4⟩ := putF X3 hx hZ hown (host := "") (Or.inl (hw _ (List.mem_of_getElem? (i := 28) rfl))) Via.refl e3 F_value_a E_a (Or.inr ⟨(hw _ (List.mem_of_getElem? (i := 29) rfl)), rfl, hnm⟩) (hw _ (List.mem_of_getElem? (i := 2) rfl)) (ty := (.array .byte)) (by decide) rfl rfl (g := (mkF m_ 14 #[.val (.ref a), .val (.ref u), .val (.int (0 : Int32)), .val (.int (0 : Int32)), .val .null, .unset] [(.ref cd), (.ref a)])) rfl rfl (hb hby djdk_42_method_149_code_14)
  have N4 := Fr.snoc X4 N0 g_a
  replace Z0 : n0 ≤ h4.size := W4.size ▸ Z0
  replace KP := KP.wr W4 (Or.inl (List.mem_of_getElem? (i := 0) rfl))
  replace O := O.wr W4 g_a
  replace E_a := E_a.wr W4
  replace F_coder_a := F_coder_a.other W4 (Or.inr (slot_ne (Or.inr (hw _ (List.mem_of_getElem? (i := 27) rfl))) (Or.inr (hw _ (List.mem_of_getElem? (i := 29) rfl))) (by decide) (t := .byte) (t' := (.array .byte)) (by decide) (by decide)))
  replace ZK := Nat.le_trans ZK (Nat.le_of_eq W4.size.symm)
  replace F_coder_ca := F_coder_ca.other W4 (Or.inr (slot_ne (Or.inr (hw _ (List.mem_of_getElem? (i := 27) rfl))) (Or.inr (hw _ (List.mem_of_getElem? (i := 29) rfl))) (by decide) (t := .byte) (t' := (.array .byte)) (by decide) (by decide)))
  replace F_value_a := F_value_a.same W4
  refine own_st T4 (mkF m_ 17 #[.val (.ref a), .val (.ref u), .val (.int (0 : Int32)), .val (.int (0 : Int32)), .val .null, .unset] []) st4 ?_
  refine own_st T4 (mkF m_ 18 #[.val (.ref a), .val (.ref u), .val (.int (0 : Int32)), .val (.int (0 : Int32)), .val .null, .unset] [(.ref a)]) (fun t_ k_ => ?_) ?_
  · refine XS.aloadN X4.here hx rfl (hb hby djdk_42_method_149_code_17) rfl rfl ?_
    show Steps p_.tables e_ below (T4.setTop (mkF m_ 18 #[.val (.ref a), .val (.ref u), .val (.int (0 : Int32)), .val (.int (0 : Int32)), .val .null, .unset] [(.ref a)])) t_
    exact k_
  refine own_st T4 (mkF m_ 20 #[.val (.ref a), .val (.ref u), .val (.int (0 : Int32)), .val (.int (0 : Int32)), .val .null, .unset] [(.ref ca), (.ref a)]) (own_ldcA X4 hx hZ hown (hw _ (List.mem_of_getElem? (i := 51) rfl)) hk2 (hb hby djdk_42_method_149_code_18)) ?_
  obtain ⟨T5, X5, e5, st5⟩ := getF X4 hx hZ hown (host := "") (Or.inl (hw _ (List.mem_of_getElem? (i := 26) rfl))) Via.refl e4 F_coder_ca (g := (mkF m_ 20 #[.val (.ref a), .val (.ref u), .val (.int (0 : Int32)), .val (.int (0 : Int32)), .val .null, .unset] [(.ref ca), (.ref a)])) rfl rfl (hb hby djdk_42_method_149_code_20)
  refine own_st T5 (mkF m_ 23 #[.val (.ref a), .val (.ref u), .val (.int (0 : Int32)), .val (.int (0 : Int32)), .val .null, .unset] [(.int cc), (.ref a)]) st5 ?_
  obtain ⟨T6, h6, X6, e6, W6, st6⟩ := putFN X5 hx hZ hown (hw _ (List.mem_of_getElem? (i := 26) rfl)) Via.refl e5 F_coder_a E_a (Or.inr ⟨(hw _ (List.mem_of_getElem? (i := 27) rfl)), rfl, hnm⟩) (hw _ (List.mem_of_getElem? (i := 2) rfl)) (ty := .byte) (v' := (.int cc)) (by decide) (by rcases hcc with rfl | rfl <;> rfl) (by rcases hcc with rfl | rfl <;> rfl) (g := (mkF m_ 23 #[.val (.ref a), .val (.ref u), .val (.int (0 : Int32)), .val (.int (0 : Int32)), .val .null, .unset] [(.int cc), (.ref a)])) rfl rfl (hb hby djdk_42_method_149_code_23)
  have N6 := Fr.snoc X6 N4 g_a
  replace Z0 : n0 ≤ h6.size := W6.size ▸ Z0
  replace KP := KP.wr W6 (Or.inl (List.mem_of_getElem? (i := 0) rfl))
  replace O := O.wr W6 g_a
  replace E_a := E_a.wr W6
  replace F_value_a := F_value_a.other W6 (Or.inr (slot_ne (Or.inr (hw _ (List.mem_of_getElem? (i := 29) rfl))) (Or.inr (hw _ (List.mem_of_getElem? (i := 27) rfl))) (by decide) (t := (.array .byte)) (t' := .byte) (by decide) (by decide)))
  replace ZK := Nat.le_trans ZK (Nat.le_of_eq W6.size.symm)
  replace F_coder_a := F_coder_a.same W6
  refine own_st T6 (mkF m_ 26 #[.val (.ref a), .val (.ref u), .val (.int (0 : Int32)), .val (.int (0 : Int32)), .val .null, .unset] []) st6 ?_
  refine own_ret0 X6 hx hlk hret (hb hby djdk_42_method_149_code_26) (by decide) (by decide) ?_
  rw [e6]
  exact ⟨⟨rfl, N6, KP⟩, ZK⟩
theorem ef_rm1_0 (m_ : MethodId) (a : Addr) (u : Addr) : entryFrame m_ #[(.ref a), (.ref u)] 2 = mkF m_ 0 #[.val (.ref a), .val (.ref u)] [] := by first | (simp [entryFrame, mkF, argsToLocals, Value.category]; done) | rfl
set_option maxRecDepth 65536 in
set_option maxHeartbeats 40000000 in
theorem rm1_0 (l : Launch) (Z : State) (a0 : Array Value) (hw : ∀ d ∈ tables_1, d.before a0 Z = true) (a : Addr) (u : Addr) (ku : ClassId) (h0 : Heap) (n0 : Nat) (Z0 : n0 ≤ h0.size) (O : Old Z n0 h0) (H : ConstHeld Z "java/lang/String" 7) (E_a : Exa Z h0 a "java/lang/String") (F_value_a : Fld Z h0 a "java/lang/String" "value" "[B" .null) (F_coder_a : Fld Z h0 a "java/lang/String" "coder" "B" (.int (0 : Int32))) (g_a : n0 ≤ a) (A_u : own_A Z h0 u ku .char 0 (fun x_ => .int (([] : List Int32).getD x_ 0))) (ne_u_a : u ≠ a) :
    own_MetW l Z (⟨"java/lang/String", "<init>", "([C)V"⟩ : MethodName) jdk_42_method_3_code 2 none ({ frames := 2, cells := 2, slots := 4, locals := 29 } : Room) #[(.ref a), (.ref u)] h0 (fun v h L => v = none ∧ Fr n0 L ∧ Keep h0 h [a]) := by
  refine own_bodyW #[.val (.ref a), .val (.ref u)] (plainFor_of_name own_pn1) (fun m_ => ef_rm1_0 m_ a u) ?_
  intro p_ e_ s_ m_ below meth c_ s₁ X0 hx hby hml hret hlk hZH hown hnm e0 hs0
  have hZ := hZH.wide
  have N0 := Fr.nil n0
  have KP := Keep.refl h0 [a]
  show own_OutW p_ e_ below s_ _ _ _ s₁ (mkF m_ 0 #[.val (.ref a), .val (.ref u)] [])
  refine own_stW s₁ (mkF m_ 6 #[.val (.ref a), .val (.ref u)] [.null, (.int (0 : Int32)), (.int (0 : Int32)), (.ref u), (.ref a)]) (fun t_ k_ => ?_) ?_
  · refine XS.aloadN X0.here hx rfl (hb hby djdk_42_method_3_code_0) rfl rfl ?_
    show Steps p_.tables e_ below (s₁.setTop (mkF m_ 1 #[.val (.ref a), .val (.ref u)] [(.ref a)])) t_
    refine XS.aloadN X0.here hx rfl (hb hby djdk_42_method_3_code_1) rfl rfl ?_
    show Steps p_.tables e_ below (s₁.setTop (mkF m_ 2 #[.val (.ref a), .val (.ref u)] [(.ref u), (.ref a)])) t_
    refine XS.iconst X0.here hx rfl (hb hby djdk_42_method_3_code_2) ?_
    show Steps p_.tables e_ below (s₁.setTop (mkF m_ 3 #[.val (.ref a), .val (.ref u)] [(.int (0 : Int32)), (.ref u), (.ref a)])) t_
    refine XS.aloadN X0.here hx rfl (hb hby djdk_42_method_3_code_3) rfl rfl ?_
    show Steps p_.tables e_ below (s₁.setTop (mkF m_ 4 #[.val (.ref a), .val (.ref u)] [(.ref u), (.int (0 : Int32)), (.ref u), (.ref a)])) t_
    refine own_len X0 hx hZ e0 A_u (hb hby djdk_42_method_3_code_4) (0 : Int32) (by decide) _ ?_
    show Steps p_.tables e_ below (s₁.setTop (mkF m_ 5 #[.val (.ref a), .val (.ref u)] [(.int (0 : Int32)), (.int (0 : Int32)), (.ref u), (.ref a)])) t_
    refine XS.aconstNull X0.here hx rfl (hb hby djdk_42_method_3_code_5) ?_
    show Steps p_.tables e_ below (s₁.setTop (mkF m_ 6 #[.val (.ref a), .val (.ref u)] [.null, (.int (0 : Int32)), (.int (0 : Int32)), (.ref u), (.ref a)])) t_
    exact k_
  refine own_callCW X0 hx hZH rfl hown (hw _ (List.mem_of_getElem? (i := 7) rfl)) (hw _ (List.mem_of_getElem? (i := 8) rfl)) (hw _ (List.mem_of_getElem? (i := 3) rfl)) (hw _ (List.mem_of_getElem? (i := 10) rfl)) (by decide) a [(.ref u), (.int (0 : Int32)), (.int (0 : Int32)), .null] [] (rm2_0 l Z a0 hw a u h0 n0 Z0 O H E_a F_value_a F_coder_a g_a) 0 (by decide) (by decide) e0 (by rw [hml]; rfl) (lenOf own_pd3 rfl) rfl (Nat.le_of_eq rfl) (hb hby djdk_42_method_3_code_6) (by decide) (by decide) ?_
  intro v1 T1 L1 X1 hS1 hZ hown q1
  obtain ⟨rfl, N1q, K1⟩ := q1
  have N1 := Fr.app N0 N1q
  replace KP := KP.trans K1 (allS (Or.inl (List.mem_of_getElem? (i := 0) rfl)) all0)
  replace O := O.keep K1 (allS g_a all0)
  replace E_a := E_a.keep K1
  -- F_value_a is dropped: written by the callee
  -- F_coder_a is dropped: written by the callee
  replace A_u := A_u.keep K1 (ninS ne_u_a nin0)
  replace Z0 : n0 ≤ T1.heap.size := Nat.le_trans Z0 K1.1
  have ZK : T1.heap.size ≤ T1.heap.size := Nat.le_refl _
  show own_Out p_ e_ below _ _ _ _ T1 (mkF m_ 9 #[.val (.ref a), .val (.ref u)] [])
  refine own_ret0 X1 hx hlk hret (hb hby djdk_42_method_3_code_9) (by decide) (by decide) ?_
  exact ⟨⟨rfl, N1, KP⟩, ZK⟩
theorem djdk_30_method_1_code_0 : decode jdk_30_method_1_code 0 = .ok (.aload_n 0, 1) := by decide +kernel
theorem djdk_30_method_1_code_1 : decode jdk_30_method_1_code 1 = .ok (.invokespecial 1, 3) := by decide +kernel
theorem djdk_30_method_1_code_4 : decode jdk_30_method_1_code 4 = .ok (.return_, 1) := by decide +kernel
theorem ef_rm8 (m_ : MethodId) (a : Addr) : entryFrame m_ #[(.ref a)] 1 = mkF m_ 0 #[.val (.ref a)] [] := by first | (simp [entryFrame, mkF, argsToLocals, Value.category]; done) | rfl
theorem own_pn2 : plainName "java/lang/Record" = true := by first | (simp [plainName, overriddenIn]; done) | decide +kernel
set_option maxRecDepth 65536 in
set_option maxHeartbeats 40000000 in
theorem rm8 (l : Launch) (Z : State) (a0 : Array Value) (hw : ∀ d ∈ tables_1, d.before a0 Z = true) (a : Addr) (h0 : Heap) (n0 : Nat) (Z0 : n0 ≤ h0.size) (E_a : Exa Z h0 a "com/example/mustr/mustr/rules/FieldValues") (F_values_a : Fld Z h0 a "com/example/mustr/mustr/rules/FieldValues" "values" "Ljava/util/Map;" .null) (F_unreadable_a : Fld Z h0 a "com/example/mustr/mustr/rules/FieldValues" "unreadable" "Ljava/lang/String;" .null) (g_a : n0 ≤ a) :
    own_Met l Z (⟨"java/lang/Record", "<init>", "()V"⟩ : MethodName) jdk_30_method_1_code 1 none ({ frames := 1, cells := 0, slots := 0, locals := 12 } : Room) #[(.ref a)] h0 (fun v h L => v = none ∧ Fr n0 L ∧ Keep h0 h [a] ∧ Exa Z h a "com/example/mustr/mustr/rules/FieldValues" ∧ Fld Z h a "com/example/mustr/mustr/rules/FieldValues" "values" "Ljava/util/Map;" .null ∧ Fld Z h a "com/example/mustr/mustr/rules/FieldValues" "unreadable" "Ljava/lang/String;" .null) := by
  refine own_body #[.val (.ref a)] (plainFor_of_name own_pn2) (fun m_ => ef_rm8 m_ a) ?_
  intro p_ e_ s_ m_ below meth c_ s₁ X0 hx hby hml hret hlk hZ hown hnm e0
  have N0 := Fr.nil n0
  have KP := Keep.refl h0 [a]
  show own_Out p_ e_ below s_ _ _ _ s₁ (mkF m_ 0 #[.val (.ref a)] [])
  refine own_st s₁ (mkF m_ 1 #[.val (.ref a)] [(.ref a)]) (fun t_ k_ => ?_) ?_
  · refine XS.aloadN X0.here hx rfl (hb hby djdk_30_method_1_code_0) rfl rfl ?_
    show Steps p_.tables e_ below (s₁.setTop (mkF m_ 1 #[.val (.ref a)] [(.ref a)])) t_
    exact k_
  obtain ⟨T1, X1, e1, st1⟩ := initO X0 hx hZ hown (hw _ (List.mem_of_getElem? (i := 41) rfl)) (hw _ (List.mem_of_getElem? (i := 12) rfl)) (hw _ (List.mem_of_getElem? (i := 13) rfl)) e0 (g := (mkF m_ 1 #[.val (.ref a)] [(.ref a)])) rfl (by rw [hml]; rfl) rfl (hb hby djdk_30_method_1_code_1) (by decide) (W := 0) (by show 2 * 0 + _ ≤ _; exact Nat.le_of_eq rfl) (by decide)
  refine own_st T1 (mkF m_ 4 #[.val (.ref a)] []) st1 ?_
  refine own_ret0 X1 hx hlk hret (hb hby djdk_30_method_1_code_4) (by decide) (by decide) ?_
  rw [e1]
  exact ⟨rfl, N0, KP, E_a, F_values_a, F_unreadable_a⟩
theorem dprog_69_method_1_code_0 : decode prog_69_method_1_code 0 = .ok (.aload_n 0, 1) := by decide +kernel
theorem own_pd4 : parseMethodDescriptor "()V" = some ⟨[], none⟩ := by decide +kernel
theorem dprog_69_method_1_code_1 : decode prog_69_method_1_code 1 = .ok (.invokespecial 1, 3) := by decide +kernel
theorem dprog_69_method_1_code_4 : decode prog_69_method_1_code 4 = .ok (.aload_n 0, 1) := by decide +kernel
theorem dprog_69_method_1_code_5 : decode prog_69_method_1_code 5 = .ok (.aload_n 1, 1) := by decide +kernel
theorem dprog_69_method_1_code_6 : decode prog_69_method_1_code 6 = .ok (.putfield 7, 3) := by decide +kernel
theorem dprog_69_method_1_code_9 : decode prog_69_method_1_code 9 = .ok (.aload_n 0, 1) := by decide +kernel
theorem dprog_69_method_1_code_10 : decode prog_69_method_1_code 10 = .ok (.aload_n 2, 1) := by decide +kernel
theorem dprog_69_method_1_code_11 : decode prog_69_method_1_code 11 = .ok (.putfield 13, 3) := by decide +kernel
theorem dprog_69_method_1_code_14 : decode prog_69_method_1_code 14 = .ok (.return_, 1) := by decide +kernel
theorem ef_rm7R (m_ : MethodId) (a : Addr) (r : Addr) : entryFrame m_ #[(.ref a), .null, (.ref r)] 3 = mkF m_ 0 #[.val (.ref a), .val .null, .val (.ref r)] [] := by first | (simp [entryFrame, mkF, argsToLocals, Value.category]; done) | rfl
theorem own_pn3 : plainName "com/example/mustr/mustr/rules/FieldValues" = true := by first | (simp [plainName, overriddenIn]; done) | decide +kernel
set_option maxRecDepth 65536 in
set_option maxHeartbeats 40000000 in
theorem rm7R (l : Launch) (Z : State) (a0 : Array Value) (hw : ∀ d ∈ tables_1, d.before a0 Z = true) (a : Addr) (r : Addr) (h0 : Heap) (n0 : Nat) (Z0 : n0 ≤ h0.size) (E_a : Exa Z h0 a "com/example/mustr/mustr/rules/FieldValues") (F_values_a : Fld Z h0 a "com/example/mustr/mustr/rules/FieldValues" "values" "Ljava/util/Map;" .null) (F_unreadable_a : Fld Z h0 a "com/example/mustr/mustr/rules/FieldValues" "unreadable" "Ljava/lang/String;" .null) (g_a : n0 ≤ a) :
    own_Met l Z (⟨"com/example/mustr/mustr/rules/FieldValues", "<init>", "(Ljava/util/Map;Ljava/lang/String;)V"⟩ : MethodName) prog_69_method_1_code 3 none ({ frames := 2, cells := 0, slots := 0, locals := 24 } : Room) #[(.ref a), .null, (.ref r)] h0 (fun v h L => v = none ∧ Fr n0 L ∧ Keep h0 h [a] ∧ Exa Z h a "com/example/mustr/mustr/rules/FieldValues" ∧ Fld Z h a "com/example/mustr/mustr/rules/FieldValues" "values" "Ljava/util/Map;" .null ∧ Fld Z h a "com/example/mustr/mustr/rules/FieldValues" "unreadable" "Ljava/lang/String;" (.ref r)) := by
  refine own_body #[.val (.ref a), .val .null, .val (.ref r)] (plainFor_of_name own_pn3) (fun m_ => ef_rm7R m_ a r) ?_
  intro p_ e_ s_ m_ below meth c_ s₁ X0 hx hby hml hret hlk hZ hown hnm e0
  have N0 := Fr.nil n0
  have KP := Keep.refl h0 [a]
  show own_Out p_ e_ below s_ _ _ _ s₁ (mkF m_ 0 #[.val (.ref a), .val .null, .val (.ref r)] [])
  refine own_st s₁ (mkF m_ 1 #[.val (.ref a), .val .null, .val (.ref r)] [(.ref a)]) (fun t_ k_ => ?_) ?_
  · refine XS.aloadN X0.here hx rfl (hb hby dprog_69_method_1_code_0) rfl rfl ?_
    show Steps p_.tables e_ below (s₁.setTop (mkF m_ 1 #[.val (.ref a), .val .null, .val (.ref r)] [(.ref a)])) t_
    exact k_
  refine own_callC X0 hx hZ rfl hown (hw _ (List.mem_of_getElem? (i := 36) rfl)) (hw _ (List.mem_of_getElem? (i := 37) rfl)) (hw _ (List.mem_of_getElem? (i := 39) rfl)) (hw _ (List.mem_of_getElem? (i := 40) rfl)) (by decide) a [] [] (rm8 l Z a0 hw a h0 n0 Z0 E_a F_values_a F_unreadable_a g_a) 0 (by decide) (by decide) e0 (by rw [hml]; rfl) (lenOf own_pd4 rfl) rfl (Nat.le_of_eq rfl) (hb hby dprog_69_method_1_code_1) (by decide) (by decide) ?_
  intro v1 T1 L1 X1 q1
  obtain ⟨rfl, N1q, K1, Eq1, Fq1_values, Fq1_unreadable⟩ := q1
  have N1 := Fr.app N0 N1q
  replace KP := KP.trans K1 (allS (Or.inl (List.mem_of_getElem? (i := 0) rfl)) all0)
  replace E_a := E_a.keep K1
  -- F_values_a is dropped: written by the callee
  -- F_unreadable_a is dropped: written by the callee
  replace Z0 : n0 ≤ T1.heap.size := Nat.le_trans Z0 K1.1
  have F_values_a := Fq1_values
  have F_unreadable_a := Fq1_unreadable
  show own_Out p_ e_ below _ _ _ _ T1 (mkF m_ 4 #[.val (.ref a), .val .null, .val (.ref r)] [])
  refine own_st T1 (mkF m_ 6 #[.val (.ref a), .val .null, .val (.ref r)] [.null, (.ref a)]) (fun t_ k_ => ?_) ?_
  · refine XS.aloadN X1.here hx rfl (hb hby dprog_69_method_1_code_4) rfl rfl ?_
    show Steps p_.tables e_ below (T1.setTop (mkF m_ 5 #[.val (.ref a), .val .null, .val (.ref r)] [(.ref a)])) t_
    refine XS.aloadN X1.here hx rfl (hb hby dprog_69_method_1_code_5) rfl rfl ?_
    show Steps p_.tables e_ below (T1.setTop (mkF m_ 6 #[.val (.ref a), .val .null, .val (.ref r)] [.null, (.ref a)])) t_
    exact k_
  obtain ⟨T2, h2, X2, e2, W2, st2⟩ := putF X1 hx hZ hown (host := "") (Or.inl (hw _ (List.mem_of_getElem? (i := 42) rfl))) Via.refl rfl F_values_a E_a (Or.inr ⟨(hw _ (List.mem_of_getElem? (i := 43) rfl)), rfl, hnm⟩) (hw _ (List.mem_of_getElem? (i := 31) rfl)) (ty := (.object "java/util/Map")) (by decide) rfl rfl (g := (mkF m_ 6 #[.val (.ref a), .val .null, .val (.ref r)] [.null, (.ref a)])) rfl rfl (hb hby dprog_69_method_1_code_6)
  have N2 := Fr.snoc X2 N1 g_a
  replace Z0 : n0 ≤ h2.size := W2.size ▸ Z0
  replace KP := KP.wr W2 (Or.inl (List.mem_of_getElem? (i := 0) rfl))
  replace E_a := E_a.wr W2
  replace F_unreadable_a := F_unreadable_a.other W2 (Or.inr (slot_ne (Or.inr (hw _ (List.mem_of_getElem? (i := 45) rfl))) (Or.inr (hw _ (List.mem_of_getElem? (i := 43) rfl))) (by decide) (t := (.object "java/lang/String")) (t' := (.object "java/util/Map")) (by decide) (by decide)))
  replace F_values_a := F_values_a.same W2
  refine own_st T2 (mkF m_ 9 #[.val (.ref a), .val .null, .val (.ref r)] []) st2 ?_
  refine own_st T2 (mkF m_ 11 #[.val (.ref a), .val .null, .val (.ref r)] [(.ref r), (.ref a)]) (fun t_ k_ => ?_) ?_
  · refine XS.aloadN X2.here hx rfl (hb hby dprog_69_method_1_code_9) rfl rfl ?_
    show Steps p_.tables e_ below (T2.setTop (mkF m_ 10 #[.val (.ref a), .val .null, .val (.ref r)] [(.ref a)])) t_
    refine XS.aloadN X2.here hx rfl (hb hby dprog_69_method_1_code_10) rfl rfl ?_
    show Steps p_.tables e_ below (T2.setTop (mkF m_ 11 #[.val (.ref a), .val .null, .val (.ref r)] [(.ref r), (.ref a)])) t_
    exact k_
  obtain ⟨T3, h3, X3, e3, W3, st3⟩ := putF X2 hx hZ hown (host := "") (Or.inl (hw _ (List.mem_of_getElem? (i := 44) rfl))) Via.refl e2 F_unreadable_a E_a (Or.inr ⟨(hw _ (List.mem_of_getElem? (i := 45) rfl)), rfl, hnm⟩) (hw _ (List.mem_of_getElem? (i := 31) rfl)) (ty := (.object "java/lang/String")) (by decide) rfl rfl (g := (mkF m_ 11 #[.val (.ref a), .val .null, .val (.ref r)] [(.ref r), (.ref a)])) rfl rfl (hb hby dprog_69_method_1_code_11)
  have N3 := Fr.snoc X3 N2 g_a
  replace Z0 : n0 ≤ h3.size := W3.size ▸ Z0
  replace KP := KP.wr W3 (Or.inl (List.mem_of_getElem? (i := 0) rfl))
  replace E_a := E_a.wr W3
  replace F_values_a := F_values_a.other W3 (Or.inr (slot_ne (Or.inr (hw _ (List.mem_of_getElem? (i := 43) rfl))) (Or.inr (hw _ (List.mem_of_getElem? (i := 45) rfl))) (by decide) (t := (.object "java/util/Map")) (t' := (.object "java/lang/String")) (by decide) (by decide)))
  replace F_unreadable_a := F_unreadable_a.same W3
  refine own_st T3 (mkF m_ 14 #[.val (.ref a), .val .null, .val (.ref r)] []) st3 ?_
  refine own_ret0 X3 hx hlk hret (hb hby dprog_69_method_1_code_14) (by decide) (by decide) ?_
  rw [e3]
  exact ⟨rfl, N3, KP, E_a, F_values_a, F_unreadable_a⟩
theorem ef_rm7N (m_ : MethodId) (a : Addr) : entryFrame m_ #[(.ref a), .null, .null] 3 = mkF m_ 0 #[.val (.ref a), .val .null, .val .null] [] := by first | (simp [entryFrame, mkF, argsToLocals, Value.category]; done) | rfl
set_option maxRecDepth 65536 in
set_option maxHeartbeats 40000000 in
theorem rm7N (l : Launch) (Z : State) (a0 : Array Value) (hw : ∀ d ∈ tables_1, d.before a0 Z = true) (a : Addr) (h0 : Heap) (n0 : Nat) (Z0 : n0 ≤ h0.size) (E_a : Exa Z h0 a "com/example/mustr/mustr/rules/FieldValues") (F_values_a : Fld Z h0 a "com/example/mustr/mustr/rules/FieldValues" "values" "Ljava/util/Map;" .null) (F_unreadable_a : Fld Z h0 a "com/example/mustr/mustr/rules/FieldValues" "unreadable" "Ljava/lang/String;" .null) (g_a : n0 ≤ a) :
    own_Met l Z (⟨"com/example/mustr/mustr/rules/FieldValues", "<init>", "(Ljava/util/Map;Ljava/lang/String;)V"⟩ : MethodName) prog_69_method_1_code 3 none ({ frames := 2, cells := 0, slots := 0, locals := 24 } : Room) #[(.ref a), .null, .null] h0 (fun v h L => v = none ∧ Fr n0 L ∧ Keep h0 h [a] ∧ Exa Z h a "com/example/mustr/mustr/rules/FieldValues" ∧ Fld Z h a "com/example/mustr/mustr/rules/FieldValues" "values" "Ljava/util/Map;" .null ∧ Fld Z h a "com/example/mustr/mustr/rules/FieldValues" "unreadable" "Ljava/lang/String;" .null) := by
  refine own_body #[.val (.ref a), .val .null, .val .null] (plainFor_of_name own_pn3) (fun m_ => ef_rm7N m_ a) ?_
  intro p_ e_ s_ m_ below meth c_ s₁ X0 hx hby hml hret hlk hZ hown hnm e0
  have N0 := Fr.nil n0
  have KP := Keep.refl h0 [a]
  show own_Out p_ e_ below s_ _ _ _ s₁ (mkF m_ 0 #[.val (.ref a), .val .null, .val .null] [])
  refine own_st s₁ (mkF m_ 1 #[.val (.ref a), .val .null, .val .null] [(.ref a)]) (fun t_ k_ => ?_) ?_
  · refine XS.aloadN X0.here hx rfl (hb hby dprog_69_method_1_code_0) rfl rfl ?_
    show Steps p_.tables e_ below (s₁.setTop (mkF m_ 1 #[.val (.ref a), .val .null, .val .null] [(.ref a)])) t_
    exact k_
  refine own_callC X0 hx hZ rfl hown (hw _ (List.mem_of_getElem? (i := 36) rfl)) (hw _ (List.mem_of_getElem? (i := 37) rfl)) (hw _ (List.mem_of_getElem? (i := 39) rfl)) (hw _ (List.mem_of_getElem? (i := 40) rfl)) (by decide) a [] [] (rm8 l Z a0 hw a h0 n0 Z0 E_a F_values_a F_unreadable_a g_a) 0 (by decide) (by decide) e0 (by rw [hml]; rfl) (lenOf own_pd4 rfl) rfl (Nat.le_of_eq rfl) (hb hby dprog_69_method_1_code_1) (by decide) (by decide) ?_
  intro v1 T1 L1 X1 q1
  obtain ⟨rfl, N1q, K1, Eq1, Fq1_values, Fq1_unreadable⟩ := q1
  have N1 := Fr.app N0 N1q
  replace KP := KP.trans K1 (allS (Or.inl (List.mem_of_getElem? (i := 0) rfl)) all0)
  replace E_a := E_a.keep K1
  -- F_values_a is dropped: written by the callee
  -- F_unreadable_a is dropped: written by the callee
  replace Z0 : n0 ≤ T1.heap.size := Nat.le_trans Z0 K1.1
  have F_values_a := Fq1_values
  have F_unreadable_a := Fq1_unreadable
  show own_Out p_ e_ below _ _ _ _ T1 (mkF m_ 4 #[.val (.ref a), .val .null, .val .null] [])
  refine own_st T1 (mkF m_ 6 #[.val (.ref a), .val .null, .val .null] [.null, (.ref a)]) (fun t_ k_ => ?_) ?_
  · refine XS.aloadN X1.here hx rfl (hb hby dprog_69_method_1_code_4) rfl rfl ?_
    show Steps p_.tables e_ below (T1.setTop (mkF m_ 5 #[.val (.ref a), .val .null, .val .null] [(.ref a)])) t_
    refine XS.aloadN X1.here hx rfl (hb hby dprog_69_method_1_code_5) rfl rfl ?_
    show Steps p_.tables e_ below (T1.setTop (mkF m_ 6 #[.val (.ref a), .val .null, .val .null] [.null, (.ref a)])) t_
    exact k_
  obtain ⟨T2, h2, X2, e2, W2, st2⟩ := putF X1 hx hZ hown (host := "") (Or.inl (hw _ (List.mem_of_getElem? (i := 42) rfl))) Via.refl rfl F_values_a E_a (Or.inr ⟨(hw _ (List.mem_of_getElem? (i := 43) rfl)), rfl, hnm⟩) (hw _ (List.mem_of_getElem? (i := 31) rfl)) (ty := (.object "java/util/Map")) (by decide) rfl rfl (g := (mkF m_ 6 #[.val (.ref a), .val .null, .val .null] [.null, (.ref a)])) rfl rfl (hb hby dprog_69_method_1_code_6)
  have N2 := Fr.snoc X2 N1 g_a
  replace Z0 : n0 ≤ h2.size := W2.size ▸ Z0
  replace KP := KP.wr W2 (Or.inl (List.mem_of_getElem? (i := 0) rfl))
  replace E_a := E_a.wr W2
  replace F_unreadable_a := F_unreadable_a.other W2 (Or.inr (slot_ne (Or.inr (hw _ (List.mem_of_getElem? (i := 45) rfl))) (Or.inr (hw _ (List.mem_of_getElem? (i := 43) rfl))) (by decide) (t := (.object "java/lang/String")) (t' := (.object "java/util/Map")) (by decide) (by decide)))
  replace F_values_a := F_values_a.same W2
  refine own_st T2 (mkF m_ 9 #[.val (.ref a), .val .null, .val .null] []) st2 ?_
  refine own_st T2 (mkF m_ 11 #[.val (.ref a), .val .null, .val .null] [.null, (.ref a)]) (fun t_ k_ => ?_) ?_
  · refine XS.aloadN X2.here hx rfl (hb hby dprog_69_method_1_code_9) rfl rfl ?_
    show Steps p_.tables e_ below (T2.setTop (mkF m_ 10 #[.val (.ref a), .val .null, .val .null] [(.ref a)])) t_
    refine XS.aloadN X2.here hx rfl (hb hby dprog_69_method_1_code_10) rfl rfl ?_
    show Steps p_.tables e_ below (T2.setTop (mkF m_ 11 #[.val (.ref a), .val .null, .val .null] [.null, (.ref a)])) t_
    exact k_
  obtain ⟨T3, h3, X3, e3, W3, st3⟩ := putF X2 hx hZ hown (host := "") (Or.inl (hw _ (List.mem_of_getElem? (i := 44) rfl))) Via.refl e2 F_unreadable_a E_a (Or.inr ⟨(hw _ (List.mem_of_getElem? (i := 45) rfl)), rfl, hnm⟩) (hw _ (List.mem_of_getElem? (i := 31) rfl)) (ty := (.object "java/lang/String")) (by decide) rfl rfl (g := (mkF m_ 11 #[.val (.ref a), .val .null, .val .null] [.null, (.ref a)])) rfl rfl (hb hby dprog_69_method_1_code_11)
  have N3 := Fr.snoc X3 N2 g_a
  replace Z0 : n0 ≤ h3.size := W3.size ▸ Z0
  replace KP := KP.wr W3 (Or.inl (List.mem_of_getElem? (i := 0) rfl))
  replace E_a := E_a.wr W3
  replace F_values_a := F_values_a.other W3 (Or.inr (slot_ne (Or.inr (hw _ (List.mem_of_getElem? (i := 43) rfl))) (Or.inr (hw _ (List.mem_of_getElem? (i := 45) rfl))) (by decide) (t := (.object "java/util/Map")) (t' := (.object "java/lang/String")) (by decide) (by decide)))
  replace F_unreadable_a := F_unreadable_a.same W3
  refine own_st T3 (mkF m_ 14 #[.val (.ref a), .val .null, .val .null] []) st3 ?_
  refine own_ret0 X3 hx hlk hret (hb hby dprog_69_method_1_code_14) (by decide) (by decide) ?_
  rw [e3]
  exact ⟨rfl, N3, KP, E_a, F_values_a, F_unreadable_a⟩
theorem dprog_69_method_4_code_0 : decode prog_69_method_4_code 0 = .ok (.aload_n 0, 1) := by decide +kernel
theorem dprog_69_method_4_code_1 : decode prog_69_method_4_code 1 = .ok (.getfield 13, 3) := by decide +kernel
theorem dprog_69_method_4_code_4 : decode prog_69_method_4_code 4 = .ok (.ifnonnull 7, 3) := by decide +kernel
theorem dprog_69_method_4_code_11 : decode prog_69_method_4_code 11 = .ok (.iconst 0, 1) := by decide +kernel
theorem dprog_69_method_4_code_12 : decode prog_69_method_4_code 12 = .ok (.ireturn, 1) := by decide +kernel
theorem ef_rm9R (m_ : MethodId) (a : Addr) : entryFrame m_ #[(.ref a)] 1 = mkF m_ 0 #[.val (.ref a)] [] := by first | (simp [entryFrame, mkF, argsToLocals, Value.category]; done) | rfl
set_option maxRecDepth 65536 in
set_option maxHeartbeats 40000000 in
theorem rm9R (l : Launch) (Z : State) (a0 : Array Value) (hw : ∀ d ∈ tables_1, d.before a0 Z = true) (a : Addr) (r : Addr) (h0 : Heap) (n0 : Nat) (Z0 : n0 ≤ h0.size) (F_unreadable_a : Fld Z h0 a "com/example/mustr/mustr/rules/FieldValues" "unreadable" "Ljava/lang/String;" (.ref r)) :
    own_Met l Z (⟨"com/example/mustr/mustr/rules/FieldValues", "isRead", "()Z"⟩ : MethodName) prog_69_method_4_code 1 (some .boolean) ({ frames := 0, cells := 0, slots := 0, locals := 0 } : Room) #[(.ref a)] h0 (fun v h L => v = some (.int (0 : Int32)) ∧ Fr n0 L ∧ h = h0) := by
  refine own_body #[.val (.ref a)] (plainFor_of_name own_pn3) (fun m_ => ef_rm9R m_ a) ?_
  intro p_ e_ s_ m_ below meth c_ s₁ X0 hx hby hml hret hlk hZ hown hnm e0
  have N0 := Fr.nil n0
  show own_Out p_ e_ below s_ _ _ _ s₁ (mkF m_ 0 #[.val (.ref a)] [])
  refine own_st s₁ (mkF m_ 1 #[.val (.ref a)] [(.ref a)]) (fun t_ k_ => ?_) ?_
  · refine XS.aloadN X0.here hx rfl (hb hby dprog_69_method_4_code_0) rfl rfl ?_
    show Steps p_.tables e_ below (s₁.setTop (mkF m_ 1 #[.val (.ref a)] [(.ref a)])) t_
    exact k_
  obtain ⟨T1, X1, e1, st1⟩ := getF X0 hx hZ hown (host := "") (Or.inl (hw _ (List.mem_of_getElem? (i := 44) rfl))) Via.refl e0 F_unreadable_a (g := (mkF m_ 1 #[.val (.ref a)] [(.ref a)])) rfl rfl (hb hby dprog_69_method_4_code_1)
  refine own_st T1 (mkF m_ 4 #[.val (.ref a)] [(.ref r)]) st1 ?_
  refine own_st T1 (mkF m_ 12 #[.val (.ref a)] [(.int (0 : Int32))]) (fun t_ k_ => ?_) ?_
  · refine XS.ifnonnullYes X1.here hx rfl (pc0 := 4) (pc' := 11) rfl (hb hby dprog_69_method_4_code_4) rfl (by decide) (by decide) ?_
    show Steps p_.tables e_ below (T1.setTop (mkF m_ 11 #[.val (.ref a)] [])) t_
    refine XS.iconst X1.here hx rfl (hb hby dprog_69_method_4_code_11) ?_
    show Steps p_.tables e_ below (T1.setTop (mkF m_ 12 #[.val (.ref a)] [(.int (0 : Int32))])) t_
    exact k_
  refine own_retN X1 hx hlk (t := .boolean) hret (by simp) (hb hby dprog_69_method_4_code_12) (by decide) (by decide) ?_
  rw [e1]
  exact ⟨rfl, N0, rfl⟩
theorem dprog_69_method_4_code_7 : decode prog_69_method_4_code 7 = .ok (.iconst 1, 1) := by decide +kernel
theorem dprog_69_method_4_code_8 : decode prog_69_method_4_code 8 = .ok (.goto 4, 3) := by decide +kernel
theorem ef_rm9N (m_ : MethodId) (a : Addr) : entryFrame m_ #[(.ref a)] 1 = mkF m_ 0 #[.val (.ref a)] [] := by first | (simp [entryFrame, mkF, argsToLocals, Value.category]; done) | rfl
set_option maxRecDepth 65536 in
set_option maxHeartbeats 40000000 in
theorem rm9N (l : Launch) (Z : State) (a0 : Array Value) (hw : ∀ d ∈ tables_1, d.before a0 Z = true) (a : Addr) (h0 : Heap) (n0 : Nat) (Z0 : n0 ≤ h0.size) (F_unreadable_a : Fld Z h0 a "com/example/mustr/mustr/rules/FieldValues" "unreadable" "Ljava/lang/String;" .null) :
    own_Met l Z (⟨"com/example/mustr/mustr/rules/FieldValues", "isRead", "()Z"⟩ : MethodName) prog_69_method_4_code 1 (some .boolean) ({ frames := 0, cells := 0, slots := 0, locals := 0 } : Room) #[(.ref a)] h0 (fun v h L => v = some (.int (1 : Int32)) ∧ Fr n0 L ∧ h = h0) := by
  refine own_body #[.val (.ref a)] (plainFor_of_name own_pn3) (fun m_ => ef_rm9N m_ a) ?_
  intro p_ e_ s_ m_ below meth c_ s₁ X0 hx hby hml hret hlk hZ hown hnm e0
  have N0 := Fr.nil n0
  show own_Out p_ e_ below s_ _ _ _ s₁ (mkF m_ 0 #[.val (.ref a)] [])
  refine own_st s₁ (mkF m_ 1 #[.val (.ref a)] [(.ref a)]) (fun t_ k_ => ?_) ?_
  · refine XS.aloadN X0.here hx rfl (hb hby dprog_69_method_4_code_0) rfl rfl ?_
    show Steps p_.tables e_ below (s₁.setTop (mkF m_ 1 #[.val (.ref a)] [(.ref a)])) t_
    exact k_
  obtain ⟨T1, X1, e1, st1⟩ := getF X0 hx hZ hown (host := "") (Or.inl (hw _ (List.mem_of_getElem? (i := 44) rfl))) Via.refl e0 F_unreadable_a (g := (mkF m_ 1 #[.val (.ref a)] [(.ref a)])) rfl rfl (hb hby dprog_69_method_4_code_1)
  refine own_st T1 (mkF m_ 4 #[.val (.ref a)] [.null]) st1 ?_
  refine own_st T1 (mkF m_ 12 #[.val (.ref a)] [(.int (1 : Int32))]) (fun t_ k_ => ?_) ?_
  · refine XS.ifnonnullNo X1.here hx rfl (hb hby dprog_69_method_4_code_4) rfl ?_
    show Steps p_.tables e_ below (T1.setTop (mkF m_ 7 #[.val (.ref a)] [])) t_
    refine XS.iconst X1.here hx rfl (hb hby dprog_69_method_4_code_7) ?_
    show Steps p_.tables e_ below (T1.setTop (mkF m_ 8 #[.val (.ref a)] [(.int (1 : Int32))])) t_
    refine XS.goto X1.here hx rfl (pc0 := 8) (pc' := 12) rfl (hb hby dprog_69_method_4_code_8) (by decide) (by decide) ?_
    show Steps p_.tables e_ below (T1.setTop (mkF m_ 12 #[.val (.ref a)] [(.int (1 : Int32))])) t_
    exact k_
  refine own_retN X1 hx hlk (t := .boolean) hret (by simp) (hb hby dprog_69_method_4_code_12) (by decide) (by decide) ?_
  rw [e1]
  exact ⟨rfl, N0, rfl⟩
theorem own_pd5 : parseMethodDescriptor "([C)V" = some ⟨[(.array .char)], none⟩ := by decide +kernel
theorem own_pd6 : parseMethodDescriptor "(Ljava/util/Map;Ljava/lang/String;)V" = some ⟨[(.object "java/util/Map"), (.object "java/lang/String")], none⟩ := by decide +kernel
theorem own_pd7 : parseMethodDescriptor "()Z" = some ⟨[], some .boolean⟩ := by decide +kernel
theorem ef_rm0 (m_ : MethodId) (pa : Int32) (pb : Int32) (pc : Int32) (pd : Int32) (pe : Int32) : entryFrame m_ #[(.int pa), (.int pb), (.int pc), (.int pd), (.int pe)] maxLocals = mkF m_ 0 #[.val (.int pa), .val (.int pb), .val (.int pc), .val (.int pd), .val (.int pe), .unset, .unset, .unset, .unset, .unset] [] := by first | (simp [entryFrame, mkF, argsToLocals, Value.category, maxLocals]; done) | rfl
theorem own_pn4 : plainName "com/example/mustr/mustr/rules/FieldValuesIsReadPinLaw" = true := by first | (simp [plainName, overriddenIn]; done) | decide +kernel
set_option maxRecDepth 65536 in
set_option maxHeartbeats 40000000 in
theorem rm0 (l : Launch) (Z : State) (a0 : Array Value) (hw : ∀ d ∈ tables_1, d.before a0 Z = true) (pa : Int32) (pb : Int32) (pc : Int32) (pd : Int32) (pe : Int32) (cs : Int32) (h0 : Heap) (n0 : Nat) (Z0 : n0 ≤ h0.size) (O : Old Z n0 h0) (S_CS : Sta Z Z.heap "java/lang/String" "COMPACT_STRINGS" "Z" (.int cs)) (hcs : ¬ cs = (0 : Int32)) (H : ConstHeld Z "java/lang/String" 7) :
    own_MetW l Z x code maxLocals ret room_1 #[(.int pa), (.int pb), (.int pc), (.int pd), (.int pe)] h0 (fun v h L => v = some (.int 1) ∧ Fr n0 L) := by
  refine own_bodyW #[.val (.int pa), .val (.int pb), .val (.int pc), .val (.int pd), .val (.int pe), .unset, .unset, .unset, .unset, .unset] (plainFor_of_name own_pn4) (fun m_ => ef_rm0 m_ pa pb pc pd pe) ?_
  intro p_ e_ s_ m_ below meth c_ s₁ X0 hx hby hml hret hlk hZH hown hnm e0 hs0
  have hZ := hZH.wide
  have N0 := Fr.nil n0
  show own_OutW p_ e_ below s_ _ _ _ s₁ (mkF m_ 0 #[.val (.int pa), .val (.int pb), .val (.int pc), .val (.int pd), .val (.int pe), .unset, .unset, .unset, .unset, .unset] [])
  by_cases hn0 : pb &&& (3 : Int32) = 0
  · refine own_stW s₁ (mkF m_ 20 #[.val (.int pa), .val (.int pb), .val (.int pc), .val (.int pd), .val (.int pe), .val (.int (if (pa &&& (1 : Int32)) = (0 : Int32) then (0 : Int32) else 1)), .val (.int (0 : Int32)), .unset, .unset, .unset] [(.int (0 : Int32))]) (fun t_ k_ => ?_) ?_
    · refine XS.iloadN X0.here hx rfl (hb hby at_0) rfl ?_
      show Steps p_.tables e_ below (s₁.setTop (mkF m_ 1 #[.val (.int pa), .val (.int pb), .val (.int pc), .val (.int pd), .val (.int pe), .unset, .unset, .unset, .unset, .unset] [(.int pa)])) t_
      refine XS.iconst X0.here hx rfl (hb hby at_1) ?_
      show Steps p_.tables e_ below (s₁.setTop (mkF m_ 2 #[.val (.int pa), .val (.int pb), .val (.int pc), .val (.int pd), .val (.int pe), .unset, .unset, .unset, .unset, .unset] [(.int (1 : Int32)), (.int pa)])) t_
      refine XS.iand X0.here hx rfl (hb hby at_2) rfl ?_
      show Steps p_.tables e_ below (s₁.setTop (mkF m_ 3 #[.val (.int pa), .val (.int pb), .val (.int pc), .val (.int pd), .val (.int pe), .unset, .unset, .unset, .unset, .unset] [(.int (pa &&& (1 : Int32)))])) t_
      have jn3 : ∀ t_, Steps p_.tables e_ below (s₁.setTop (mkF m_ 11 #[.val (.int pa), .val (.int pb), .val (.int pc), .val (.int pd), .val (.int pe), .unset, .unset, .unset, .unset, .unset] [(.int (if (pa &&& (1 : Int32)) = (0 : Int32) then (0 : Int32) else 1))])) t_ → Steps p_.tables e_ below (s₁.setTop (mkF m_ 3 #[.val (.int pa), .val (.int pb), .val (.int pc), .val (.int pd), .val (.int pe), .unset, .unset, .unset, .unset, .unset] [(.int (pa &&& (1 : Int32)))])) t_ := by
        intro t_ k_
        by_cases hc3 : (pa &&& (1 : Int32)) = (0 : Int32)
        · refine XS.ifYes X0.here hx rfl (pc0 := 3) (pc' := 10) rfl (hb hby at_3) rfl ((if0 _ _).trans (teq hc3).1) (by decide) (by decide) ?_
          show Steps p_.tables e_ below (s₁.setTop (mkF m_ 10 #[.val (.int pa), .val (.int pb), .val (.int pc), .val (.int pd), .val (.int pe), .unset, .unset, .unset, .unset, .unset] [])) t_
          refine XS.iconst X0.here hx rfl (hb hby at_10) ?_
          show Steps p_.tables e_ below (s₁.setTop (mkF m_ 11 #[.val (.int pa), .val (.int pb), .val (.int pc), .val (.int pd), .val (.int pe), .unset, .unset, .unset, .unset, .unset] [(.int (0 : Int32))])) t_
          simp only [if_pos hc3] at k_ ⊢
          exact k_
        · refine XS.ifNo X0.here hx rfl (hb hby at_3) rfl ((if0 _ _).trans (feq hc3).1) ?_
          show Steps p_.tables e_ below (s₁.setTop (mkF m_ 6 #[.val (.int pa), .val (.int pb), .val (.int pc), .val (.int pd), .val (.int pe), .unset, .unset, .unset, .unset, .unset] [])) t_
          refine XS.iconst X0.here hx rfl (hb hby at_6) ?_
          show Steps p_.tables e_ below (s₁.setTop (mkF m_ 7 #[.val (.int pa), .val (.int pb), .val (.int pc), .val (.int pd), .val (.int pe), .unset, .unset, .unset, .unset, .unset] [(.int (1 : Int32))])) t_
          refine XS.goto X0.here hx rfl (pc0 := 7) (pc' := 11) rfl (hb hby at_7) (by decide) (by decide) ?_
          show Steps p_.tables e_ below (s₁.setTop (mkF m_ 11 #[.val (.int pa), .val (.int pb), .val (.int pc), .val (.int pd), .val (.int pe), .unset, .unset, .unset, .unset, .unset] [(.int (1 : Int32))])) t_
          simp only [if_neg hc3] at k_ ⊢
          exact k_
      refine jn3 _ ?_
      show Steps p_.tables e_ below (s₁.setTop (mkF m_ 11 #[.val (.int pa), .val (.int pb), .val (.int pc), .val (.int pd), .val (.int pe), .unset, .unset, .unset, .unset, .unset] [(.int (if (pa &&& (1 : Int32)) = (0 : Int32) then (0 : Int32) else 1))])) t_
      refine XS.istore X0.here hx rfl (hb hby at_11) rfl (l' := #[.val (.int pa), .val (.int pb), .val (.int pc), .val (.int pd), .val (.int pe), .val (.int (if (pa &&& (1 : Int32)) = (0 : Int32) then (0 : Int32) else 1)), .unset, .unset, .unset, .unset]) rfl ?_
      show Steps p_.tables e_ below (s₁.setTop (mkF m_ 13 #[.val (.int pa), .val (.int pb), .val (.int pc), .val (.int pd), .val (.int pe), .val (.int (if (pa &&& (1 : Int32)) = (0 : Int32) then (0 : Int32) else 1)), .unset, .unset, .unset, .unset] [])) t_
      refine XS.iloadN X0.here hx rfl (hb hby at_13) rfl ?_
      show Steps p_.tables e_ below (s₁.setTop (mkF m_ 14 #[.val (.int pa), .val (.int pb), .val (.int pc), .val (.int pd), .val (.int pe), .val (.int (if (pa &&& (1 : Int32)) = (0 : Int32) then (0 : Int32) else 1)), .unset, .unset, .unset, .unset] [(.int pb)])) t_
      refine XS.iconst X0.here hx rfl (hb hby at_14) ?_
      show Steps p_.tables e_ below (s₁.setTop (mkF m_ 15 #[.val (.int pa), .val (.int pb), .val (.int pc), .val (.int pd), .val (.int pe), .val (.int (if (pa &&& (1 : Int32)) = (0 : Int32) then (0 : Int32) else 1)), .unset, .unset, .unset, .unset] [(.int (3 : Int32)), (.int pb)])) t_
      refine XS.iand X0.here hx rfl (hb hby at_15) rfl ?_
      rw [hn0]
      show Steps p_.tables e_ below (s₁.setTop (mkF m_ 16 #[.val (.int pa), .val (.int pb), .val (.int pc), .val (.int pd), .val (.int pe), .val (.int (if (pa &&& (1 : Int32)) = (0 : Int32) then (0 : Int32) else 1)), .unset, .unset, .unset, .unset] [(.int (0 : Int32))])) t_
      refine XS.istore X0.here hx rfl (hb hby at_16) rfl (l' := #[.val (.int pa), .val (.int pb), .val (.int pc), .val (.int pd), .val (.int pe), .val (.int (if (pa &&& (1 : Int32)) = (0 : Int32) then (0 : Int32) else 1)), .val (.int (0 : Int32)), .unset, .unset, .unset]) rfl ?_
      show Steps p_.tables e_ below (s₁.setTop (mkF m_ 18 #[.val (.int pa), .val (.int pb), .val (.int pc), .val (.int pd), .val (.int pe), .val (.int (if (pa &&& (1 : Int32)) = (0 : Int32) then (0 : Int32) else 1)), .val (.int (0 : Int32)), .unset, .unset, .unset] [])) t_
      refine XS.iload X0.here hx rfl (hb hby at_18) rfl ?_
      show Steps p_.tables e_ below (s₁.setTop (mkF m_ 20 #[.val (.int pa), .val (.int pb), .val (.int pc), .val (.int pd), .val (.int pe), .val (.int (if (pa &&& (1 : Int32)) = (0 : Int32) then (0 : Int32) else 1)), .val (.int (0 : Int32)), .unset, .unset, .unset] [(.int (0 : Int32))])) t_
      exact k_
    obtain ⟨T1, h1, k1, X1, e1, E1, A1, st1⟩ := newP X0 hx hZ (hw _ (List.mem_of_getElem? (i := 0) rfl)) e0 (g := (mkF m_ 20 #[.val (.int pa), .val (.int pb), .val (.int pc), .val (.int pd), .val (.int pe), .val (.int (if (pa &&& (1 : Int32)) = (0 : Int32) then (0 : Int32) else 1)), .val (.int (0 : Int32)), .unset, .unset, .unset] [(.int (0 : Int32))])) rfl (hb hby at_20) rfl (by decide) (cap := 0) (by decide) (by decide) (by decide) (by decide)
    obtain ⟨b1, g1⟩ : ∃ z, z = h0.size := ⟨_, rfl⟩
    rw [← g1] at A1 st1
    have g_b1 : n0 ≤ b1 := g1 ▸ Z0
    replace O := O.ext E1
    replace Z0 : n0 ≤ h1.size := Nat.le_trans Z0 E1.1
    have A_b1 : own_A Z h1 b1 k1 .char 0 (fun x_ => .int (([] : List Int32).getD x_ 0)) := own_A.newLI A1 (by decide) 0 (by decide) rfl
    refine own_stW T1 (mkF m_ 22 #[.val (.int pa), .val (.int pb), .val (.int pc), .val (.int pd), .val (.int pe), .val (.int (if (pa &&& (1 : Int32)) = (0 : Int32) then (0 : Int32) else 1)), .val (.int (0 : Int32)), .unset, .unset, .unset] [(.ref b1)]) st1 ?_
    refine own_stW T1 (mkF m_ 74 #[.val (.int pa), .val (.int pb), .val (.int pc), .val (.int pd), .val (.int pe), .val (.int (if (pa &&& (1 : Int32)) = (0 : Int32) then (0 : Int32) else 1)), .val (.int (0 : Int32)), .val (.ref b1), .unset, .unset] [(.int (if (pa &&& (1 : Int32)) = (0 : Int32) then (0 : Int32) else 1))]) (fun t_ k_ => ?_) ?_
    · refine XS.astore X1.here hx rfl (hb hby at_22) rfl rfl (l' := #[.val (.int pa), .val (.int pb), .val (.int pc), .val (.int pd), .val (.int pe), .val (.int (if (pa &&& (1 : Int32)) = (0 : Int32) then (0 : Int32) else 1)), .val (.int (0 : Int32)), .val (.ref b1), .unset, .unset]) rfl ?_
      show Steps p_.tables e_ below (T1.setTop (mkF m_ 24 #[.val (.int pa), .val (.int pb), .val (.int pc), .val (.int pd), .val (.int pe), .val (.int (if (pa &&& (1 : Int32)) = (0 : Int32) then (0 : Int32) else 1)), .val (.int (0 : Int32)), .val (.ref b1), .unset, .unset] [])) t_
      refine XS.iload X1.here hx rfl (hb hby at_24) rfl ?_
      show Steps p_.tables e_ below (T1.setTop (mkF m_ 26 #[.val (.int pa), .val (.int pb), .val (.int pc), .val (.int pd), .val (.int pe), .val (.int (if (pa &&& (1 : Int32)) = (0 : Int32) then (0 : Int32) else 1)), .val (.int (0 : Int32)), .val (.ref b1), .unset, .unset] [(.int (0 : Int32))])) t_
      refine XS.ifYes X1.here hx rfl (pc0 := 26) (pc' := 39) rfl (hb hby at_26) rfl ((if0 _ _).trans (flt (by decide : ¬ ((0 : Int32) < (0 : Int32)))).2.2.2) (by decide) (by decide) ?_
      show Steps p_.tables e_ below (T1.setTop (mkF m_ 39 #[.val (.int pa), .val (.int pb), .val (.int pc), .val (.int pd), .val (.int pe), .val (.int (if (pa &&& (1 : Int32)) = (0 : Int32) then (0 : Int32) else 1)), .val (.int (0 : Int32)), .val (.ref b1), .unset, .unset] [])) t_
      refine XS.iload X1.here hx rfl (hb hby at_39) rfl ?_
      show Steps p_.tables e_ below (T1.setTop (mkF m_ 41 #[.val (.int pa), .val (.int pb), .val (.int pc), .val (.int pd), .val (.int pe), .val (.int (if (pa &&& (1 : Int32)) = (0 : Int32) then (0 : Int32) else 1)), .val (.int (0 : Int32)), .val (.ref b1), .unset, .unset] [(.int (0 : Int32))])) t_
      refine XS.iconst X1.here hx rfl (hb hby at_41) ?_
      show Steps p_.tables e_ below (T1.setTop (mkF m_ 42 #[.val (.int pa), .val (.int pb), .val (.int pc), .val (.int pd), .val (.int pe), .val (.int (if (pa &&& (1 : Int32)) = (0 : Int32) then (0 : Int32) else 1)), .val (.int (0 : Int32)), .val (.ref b1), .unset, .unset] [(.int (1 : Int32)), (.int (0 : Int32))])) t_
      refine XS.icmpYes X1.here hx rfl (pc0 := 42) (pc' := 55) rfl (hb hby at_42) rfl (flt (by decide : ¬ ((1 : Int32) < (0 : Int32)))).2.2.2 (by decide) (by decide) ?_
      show Steps p_.tables e_ below (T1.setTop (mkF m_ 55 #[.val (.int pa), .val (.int pb), .val (.int pc), .val (.int pd), .val (.int pe), .val (.int (if (pa &&& (1 : Int32)) = (0 : Int32) then (0 : Int32) else 1)), .val (.int (0 : Int32)), .val (.ref b1), .unset, .unset] [])) t_
      refine XS.iload X1.here hx rfl (hb hby at_55) rfl ?_
      show Steps p_.tables e_ below (T1.setTop (mkF m_ 57 #[.val (.int pa), .val (.int pb), .val (.int pc), .val (.int pd), .val (.int pe), .val (.int (if (pa &&& (1 : Int32)) = (0 : Int32) then (0 : Int32) else 1)), .val (.int (0 : Int32)), .val (.ref b1), .unset, .unset] [(.int (0 : Int32))])) t_
      refine XS.iconst X1.here hx rfl (hb hby at_57) ?_
      show Steps p_.tables e_ below (T1.setTop (mkF m_ 58 #[.val (.int pa), .val (.int pb), .val (.int pc), .val (.int pd), .val (.int pe), .val (.int (if (pa &&& (1 : Int32)) = (0 : Int32) then (0 : Int32) else 1)), .val (.int (0 : Int32)), .val (.ref b1), .unset, .unset] [(.int (2 : Int32)), (.int (0 : Int32))])) t_
      refine XS.icmpYes X1.here hx rfl (pc0 := 58) (pc' := 72) rfl (hb hby at_58) rfl (flt (by decide : ¬ ((2 : Int32) < (0 : Int32)))).2.2.2 (by decide) (by decide) ?_
      show Steps p_.tables e_ below (T1.setTop (mkF m_ 72 #[.val (.int pa), .val (.int pb), .val (.int pc), .val (.int pd), .val (.int pe), .val (.int (if (pa &&& (1 : Int32)) = (0 : Int32) then (0 : Int32) else 1)), .val (.int (0 : Int32)), .val (.ref b1), .unset, .unset] [])) t_
      refine XS.iload X1.here hx rfl (hb hby at_72) rfl ?_
      show Steps p_.tables e_ below (T1.setTop (mkF m_ 74 #[.val (.int pa), .val (.int pb), .val (.int pc), .val (.int pd), .val (.int pe), .val (.int (if (pa &&& (1 : Int32)) = (0 : Int32) then (0 : Int32) else 1)), .val (.int (0 : Int32)), .val (.ref b1), .unset, .unset] [(.int (if (pa &&& (1 : Int32)) = (0 : Int32) then (0 : Int32) else 1))])) t_
      exact k_
    by_cases hc74 : (pa &&& (1 : Int32)) = (0 : Int32)
    · refine own_stW T1 (mkF m_ 81 #[.val (.int pa), .val (.int pb), .val (.int pc), .val (.int pd), .val (.int pe), .val (.int (if (pa &&& (1 : Int32)) = (0 : Int32) then (0 : Int32) else 1)), .val (.int (0 : Int32)), .val (.ref b1), .unset, .unset] []) (fun t_ k_ => XS.ifYes X1.here hx rfl (pc0 := 74) (pc' := 81) rfl (hb hby at_74) rfl ((if0 _ _).trans (teq (own_nt hc74)).1) (by decide) (by decide) k_) ?_
      obtain ⟨T2, h2, X2, e2, E2, A2, D2, -, st2⟩ := newO X1 hx hZ hown (hw _ (List.mem_of_getElem? (i := 1) rfl)) (hw _ (List.mem_of_getElem? (i := 2) rfl)) (hw _ (List.mem_of_getElem? (i := 3) rfl)) e1 (g := (mkF m_ 81 #[.val (.int pa), .val (.int pb), .val (.int pc), .val (.int pd), .val (.int pe), .val (.int (if (pa &&& (1 : Int32)) = (0 : Int32) then (0 : Int32) else 1)), .val (.int (0 : Int32)), .val (.ref b1), .unset, .unset] [])) rfl (hb hby at_81) (by decide) (by decide)
      obtain ⟨b2, g2⟩ : ∃ z, z = h1.size := ⟨_, rfl⟩
      rw [← g2] at A2 D2 st2
      have g_b2 : n0 ≤ b2 := g2 ▸ Z0
      have ne_b1_b2 : b1 ≠ b2 := Nat.ne_of_lt (Nat.lt_of_lt_of_le A_b1.lt (Nat.le_of_eq g2.symm))
      replace O := O.ext E2
      replace A_b1 := A_b1.ext E2
      replace Z0 : n0 ≤ h2.size := Nat.le_trans Z0 E2.1
      have F_coder_b2 : Fld Z h2 b2 "java/lang/String" "coder" "B" (.int (0 : Int32)) := D2 (Or.inr (hw _ (List.mem_of_getElem? (i := 27) rfl))) (ty := .byte) (by decide)
      have F_value_b2 : Fld Z h2 b2 "java/lang/String" "value" "[B" .null := D2 (Or.inr (hw _ (List.mem_of_getElem? (i := 29) rfl))) (ty := (.array .byte)) (by decide)
      have E_b2 := A2
      refine own_stW T2 (mkF m_ 84 #[.val (.int pa), .val (.int pb), .val (.int pc), .val (.int pd), .val (.int pe), .val (.int (if (pa &&& (1 : Int32)) = (0 : Int32) then (0 : Int32) else 1)), .val (.int (0 : Int32)), .val (.ref b1), .unset, .unset] [(.ref b2)]) st2 ?_
      refine own_stW T2 (mkF m_ 87 #[.val (.int pa), .val (.int pb), .val (.int pc), .val (.int pd), .val (.int pe), .val (.int (if (pa &&& (1 : Int32)) = (0 : Int32) then (0 : Int32) else 1)), .val (.int (0 : Int32)), .val (.ref b1), .unset, .unset] [(.ref b1), (.ref b2), (.ref b2)]) (fun t_ k_ => ?_) ?_
      · refine XS.dup X2.here hx rfl (hb hby at_84) rfl rfl ?_
        show Steps p_.tables e_ below (T2.setTop (mkF m_ 85 #[.val (.int pa), .val (.int pb), .val (.int pc), .val (.int pd), .val (.int pe), .val (.int (if (pa &&& (1 : Int32)) = (0 : Int32) then (0 : Int32) else 1)), .val (.int (0 : Int32)), .val (.ref b1), .unset, .unset] [(.ref b2), (.ref b2)])) t_
        refine XS.aload X2.here hx rfl (hb hby at_85) rfl rfl ?_
        show Steps p_.tables e_ below (T2.setTop (mkF m_ 87 #[.val (.int pa), .val (.int pb), .val (.int pc), .val (.int pd), .val (.int pe), .val (.int (if (pa &&& (1 : Int32)) = (0 : Int32) then (0 : Int32) else 1)), .val (.int (0 : Int32)), .val (.ref b1), .unset, .unset] [(.ref b1), (.ref b2), (.ref b2)])) t_
        exact k_
      refine own_callCW X2 hx hZH rfl hown (hw _ (List.mem_of_getElem? (i := 4) rfl)) (hw _ (List.mem_of_getElem? (i := 5) rfl)) (hw _ (List.mem_of_getElem? (i := 3) rfl)) (hw _ (List.mem_of_getElem? (i := 6) rfl)) (by decide) b2 [(.ref b1)] [(.ref b2)] (rm1_0 l Z a0 hw b2 b1 k1 h2 n0 Z0 O H E_b2 F_value_b2 F_coder_b2 g_b2 A_b1 ne_b1_b2) 1 (by decide) (by decide) e2 (by rw [hml]; rfl) (lenOf own_pd5 rfl) rfl (Nat.le_of_eq rfl) (hb hby at_87) (by decide) (by decide) ?_
      intro v3 T3 L3 X3 hS3 hZ hown q3
      obtain ⟨rfl, N3q, K3⟩ := q3
      have N3 := Fr.app N0 N3q
      replace O := O.keep K3 (allS g_b2 all0)
      replace A_b1 := A_b1.keep K3 (ninS ne_b1_b2 nin0)
      -- F_coder_b2 is dropped: written by the callee
      -- F_value_b2 is dropped: written by the callee
      replace E_b2 := E_b2.keep K3
      replace Z0 : n0 ≤ T3.heap.size := Nat.le_trans Z0 K3.1
      have ZK : T3.heap.size ≤ T3.heap.size := Nat.le_refl _
      show own_Out p_ e_ below _ _ _ _ T3 (mkF m_ 90 #[.val (.int pa), .val (.int pb), .val (.int pc), .val (.int pd), .val (.int pe), .val (.int (if (pa &&& (1 : Int32)) = (0 : Int32) then (0 : Int32) else 1)), .val (.int (0 : Int32)), .val (.ref b1), .unset, .unset] [(.ref b2)])
      refine own_st T3 (mkF m_ 92 #[.val (.int pa), .val (.int pb), .val (.int pc), .val (.int pd), .val (.int pe), .val (.int (if (pa &&& (1 : Int32)) = (0 : Int32) then (0 : Int32) else 1)), .val (.int (0 : Int32)), .val (.ref b1), .val (.ref b2), .unset] []) (fun t_ k_ => ?_) ?_
      · refine XS.astore X3.here hx rfl (hb hby at_90) rfl rfl (l' := #[.val (.int pa), .val (.int pb), .val (.int pc), .val (.int pd), .val (.int pe), .val (.int (if (pa &&& (1 : Int32)) = (0 : Int32) then (0 : Int32) else 1)), .val (.int (0 : Int32)), .val (.ref b1), .val (.ref b2), .unset]) rfl ?_
        show Steps p_.tables e_ below (T3.setTop (mkF m_ 92 #[.val (.int pa), .val (.int pb), .val (.int pc), .val (.int pd), .val (.int pe), .val (.int (if (pa &&& (1 : Int32)) = (0 : Int32) then (0 : Int32) else 1)), .val (.int (0 : Int32)), .val (.ref b1), .val (.ref b2), .unset] [])) t_
        exact k_
      obtain ⟨T4, h4, X4, e4, E4, A4, D4, -, st4⟩ := newO X3 hx hZ hown (hw _ (List.mem_of_getElem? (i := 30) rfl)) (hw _ (List.mem_of_getElem? (i := 31) rfl)) (hw _ (List.mem_of_getElem? (i := 32) rfl)) rfl (g := (mkF m_ 92 #[.val (.int pa), .val (.int pb), .val (.int pc), .val (.int pd), .val (.int pe), .val (.int (if (pa &&& (1 : Int32)) = (0 : Int32) then (0 : Int32) else 1)), .val (.int (0 : Int32)), .val (.ref b1), .val (.ref b2), .unset] [])) rfl (hb hby at_92) (by decide) (by decide)
      obtain ⟨b4, g4⟩ : ∃ z, z = T3.heap.size := ⟨_, rfl⟩
      rw [← g4] at A4 D4 st4
      have g_b4 : n0 ≤ b4 := g4 ▸ Z0
      have ne_b1_b4 : b1 ≠ b4 := Nat.ne_of_lt (Nat.lt_of_lt_of_le A_b1.lt (Nat.le_of_eq g4.symm))
      have ne_b2_b4 : b2 ≠ b4 := Nat.ne_of_lt (Nat.lt_of_lt_of_le E_b2.lt (Nat.le_of_eq g4.symm))
      replace O := O.ext E4
      replace A_b1 := A_b1.ext E4
      replace E_b2 := E_b2.ext E4
      replace ZK := Nat.le_trans ZK E4.1
      replace Z0 : n0 ≤ h4.size := Nat.le_trans Z0 E4.1
      have F_values_b4 : Fld Z h4 b4 "com/example/mustr/mustr/rules/FieldValues" "values" "Ljava/util/Map;" .null := D4 (Or.inr (hw _ (List.mem_of_getElem? (i := 43) rfl))) (ty := (.object "java/util/Map")) (by decide)
      have F_unreadable_b4 : Fld Z h4 b4 "com/example/mustr/mustr/rules/FieldValues" "unreadable" "Ljava/lang/String;" .null := D4 (Or.inr (hw _ (List.mem_of_getElem? (i := 45) rfl))) (ty := (.object "java/lang/String")) (by decide)
      have E_b4 := A4
      refine own_st T4 (mkF m_ 95 #[.val (.int pa), .val (.int pb), .val (.int pc), .val (.int pd), .val (.int pe), .val (.int (if (pa &&& (1 : Int32)) = (0 : Int32) then (0 : Int32) else 1)), .val (.int (0 : Int32)), .val (.ref b1), .val (.ref b2), .unset] [(.ref b4)]) st4 ?_
      refine own_st T4 (mkF m_ 99 #[.val (.int pa), .val (.int pb), .val (.int pc), .val (.int pd), .val (.int pe), .val (.int (if (pa &&& (1 : Int32)) = (0 : Int32) then (0 : Int32) else 1)), .val (.int (0 : Int32)), .val (.ref b1), .val (.ref b2), .unset] [(.ref b2), .null, (.ref b4), (.ref b4)]) (fun t_ k_ => ?_) ?_
      · refine XS.dup X4.here hx rfl (hb hby at_95) rfl rfl ?_
        show Steps p_.tables e_ below (T4.setTop (mkF m_ 96 #[.val (.int pa), .val (.int pb), .val (.int pc), .val (.int pd), .val (.int pe), .val (.int (if (pa &&& (1 : Int32)) = (0 : Int32) then (0 : Int32) else 1)), .val (.int (0 : Int32)), .val (.ref b1), .val (.ref b2), .unset] [(.ref b4), (.ref b4)])) t_
        refine XS.aconstNull X4.here hx rfl (hb hby at_96) ?_
        show Steps p_.tables e_ below (T4.setTop (mkF m_ 97 #[.val (.int pa), .val (.int pb), .val (.int pc), .val (.int pd), .val (.int pe), .val (.int (if (pa &&& (1 : Int32)) = (0 : Int32) then (0 : Int32) else 1)), .val (.int (0 : Int32)), .val (.ref b1), .val (.ref b2), .unset] [.null, (.ref b4), (.ref b4)])) t_
        refine XS.aload X4.here hx rfl (hb hby at_97) rfl rfl ?_
        show Steps p_.tables e_ below (T4.setTop (mkF m_ 99 #[.val (.int pa), .val (.int pb), .val (.int pc), .val (.int pd), .val (.int pe), .val (.int (if (pa &&& (1 : Int32)) = (0 : Int32) then (0 : Int32) else 1)), .val (.int (0 : Int32)), .val (.ref b1), .val (.ref b2), .unset] [(.ref b2), .null, (.ref b4), (.ref b4)])) t_
        exact k_
      refine own_callC X4 hx hZ rfl hown (hw _ (List.mem_of_getElem? (i := 33) rfl)) (hw _ (List.mem_of_getElem? (i := 34) rfl)) (hw _ (List.mem_of_getElem? (i := 32) rfl)) (hw _ (List.mem_of_getElem? (i := 35) rfl)) (by decide) b4 [.null, (.ref b2)] [(.ref b4)] (rm7R l Z a0 hw b4 b2 h4 n0 Z0 E_b4 F_values_b4 F_unreadable_b4 g_b4) 1 (by decide) (by decide) e4 (by rw [hml]; rfl) (lenOf own_pd6 rfl) rfl (Nat.le_of_eq rfl) (hb hby at_99) (by decide) (by decide) ?_
      intro v5 T5 L5 X5 q5
      obtain ⟨rfl, N5q, K5, Eq5, Fq5_values, Fq5_unreadable⟩ := q5
      have N5 := Fr.app N3 N5q
      replace O := O.keep K5 (allS g_b4 all0)
      replace A_b1 := A_b1.keep K5 (ninS ne_b1_b4 nin0)
      replace E_b2 := E_b2.keep K5
      replace ZK := Nat.le_trans ZK K5.1
      -- F_values_b4 is dropped: written by the callee
      -- F_unreadable_b4 is dropped: written by the callee
      replace E_b4 := E_b4.keep K5
      replace Z0 : n0 ≤ T5.heap.size := Nat.le_trans Z0 K5.1
      have F_values_b4 := Fq5_values
      have F_unreadable_b4 := Fq5_unreadable
      show own_Out p_ e_ below _ _ _ _ T5 (mkF m_ 102 #[.val (.int pa), .val (.int pb), .val (.int pc), .val (.int pd), .val (.int pe), .val (.int (if (pa &&& (1 : Int32)) = (0 : Int32) then (0 : Int32) else 1)), .val (.int (0 : Int32)), .val (.ref b1), .val (.ref b2), .unset] [(.ref b4)])
      refine own_st T5 (mkF m_ 106 #[.val (.int pa), .val (.int pb), .val (.int pc), .val (.int pd), .val (.int pe), .val (.int (if (pa &&& (1 : Int32)) = (0 : Int32) then (0 : Int32) else 1)), .val (.int (0 : Int32)), .val (.ref b1), .val (.ref b2), .val (.ref b4)] [(.ref b4)]) (fun t_ k_ => ?_) ?_
      · refine XS.astore X5.here hx rfl (hb hby at_102) rfl rfl (l' := #[.val (.int pa), .val (.int pb), .val (.int pc), .val (.int pd), .val (.int pe), .val (.int (if (pa &&& (1 : Int32)) = (0 : Int32) then (0 : Int32) else 1)), .val (.int (0 : Int32)), .val (.ref b1), .val (.ref b2), .val (.ref b4)]) rfl ?_
        show Steps p_.tables e_ below (T5.setTop (mkF m_ 104 #[.val (.int pa), .val (.int pb), .val (.int pc), .val (.int pd), .val (.int pe), .val (.int (if (pa &&& (1 : Int32)) = (0 : Int32) then (0 : Int32) else 1)), .val (.int (0 : Int32)), .val (.ref b1), .val (.ref b2), .val (.ref b4)] [])) t_
        refine XS.aload X5.here hx rfl (hb hby at_104) rfl rfl ?_
        show Steps p_.tables e_ below (T5.setTop (mkF m_ 106 #[.val (.int pa), .val (.int pb), .val (.int pc), .val (.int pd), .val (.int pe), .val (.int (if (pa &&& (1 : Int32)) = (0 : Int32) then (0 : Int32) else 1)), .val (.int (0 : Int32)), .val (.ref b1), .val (.ref b2), .val (.ref b4)] [(.ref b4)])) t_
        exact k_
      refine own_callV X5 hx hZ (y := (⟨"com/example/mustr/mustr/rules/FieldValues", "isRead", "()Z"⟩ : MethodName)) (z := (⟨"com/example/mustr/mustr/rules/FieldValues", "isRead", "()Z"⟩ : MethodName)) hown (hw _ (List.mem_of_getElem? (i := 46) rfl)) (hw _ (List.mem_of_getElem? (i := 47) rfl)) (notFace_of_selects (args := #[]) (mvT hZ (hw _ (List.mem_of_getElem? (i := 49) rfl)))) (hw _ (List.mem_of_getElem? (i := 49) rfl)) (hw _ (List.mem_of_getElem? (i := 48) rfl)) (hw _ (List.mem_of_getElem? (i := 32) rfl)) (hw _ (List.mem_of_getElem? (i := 50) rfl)) (by decide) b4 [] [] E_b4 (rm9R l Z a0 hw b4 b2 T5.heap n0 Z0 F_unreadable_b4) 0 (by decide) (by decide) rfl (by rw [hml]; rfl) (lenOf own_pd7 rfl) rfl (Nat.le_of_eq rfl) (hb hby at_106) (by decide) (by decide) ?_
      intro v6 T6 L6 X6 q6
      obtain ⟨rfl, N6q, e6⟩ := q6
      have N6 := Fr.app N5 N6q
      show own_Out p_ e_ below _ _ _ _ T6 (mkF m_ 109 #[.val (.int pa), .val (.int pb), .val (.int pc), .val (.int pd), .val (.int pe), .val (.int (if (pa &&& (1 : Int32)) = (0 : Int32) then (0 : Int32) else 1)), .val (.int (0 : Int32)), .val (.ref b1), .val (.ref b2), .val (.ref b4)] [(.int (0 : Int32))])
      refine own_st T6 (mkF m_ 119 #[.val (.int pa), .val (.int pb), .val (.int pc), .val (.int pd), .val (.int pe), .val (.int (if (pa &&& (1 : Int32)) = (0 : Int32) then (0 : Int32) else 1)), .val (.int (0 : Int32)), .val (.ref b1), .val (.ref b2), .val (.ref b4)] [(.int (1 : Int32))]) (fun t_ k_ => ?_) ?_
      · refine XS.iload X6.here hx rfl (hb hby at_109) rfl ?_
        show Steps p_.tables e_ below (T6.setTop (mkF m_ 111 #[.val (.int pa), .val (.int pb), .val (.int pc), .val (.int pd), .val (.int pe), .val (.int (if (pa &&& (1 : Int32)) = (0 : Int32) then (0 : Int32) else 1)), .val (.int (0 : Int32)), .val (.ref b1), .val (.ref b2), .val (.ref b4)] [(.int (if (pa &&& (1 : Int32)) = (0 : Int32) then (0 : Int32) else 1)), (.int (0 : Int32))])) t_
        refine XS.icmpNo X6.here hx rfl (hb hby at_111) rfl (teq (by rw [if_pos hc74] : (0 : Int32) = (if (pa &&& (1 : Int32)) = (0 : Int32) then (0 : Int32) else 1))).2 ?_
        show Steps p_.tables e_ below (T6.setTop (mkF m_ 114 #[.val (.int pa), .val (.int pb), .val (.int pc), .val (.int pd), .val (.int pe), .val (.int (if (pa &&& (1 : Int32)) = (0 : Int32) then (0 : Int32) else 1)), .val (.int (0 : Int32)), .val (.ref b1), .val (.ref b2), .val (.ref b4)] [])) t_
        refine XS.iconst X6.here hx rfl (hb hby at_114) ?_
        show Steps p_.tables e_ below (T6.setTop (mkF m_ 115 #[.val (.int pa), .val (.int pb), .val (.int pc), .val (.int pd), .val (.int pe), .val (.int (if (pa &&& (1 : Int32)) = (0 : Int32) then (0 : Int32) else 1)), .val (.int (0 : Int32)), .val (.ref b1), .val (.ref b2), .val (.ref b4)] [(.int (1 : Int32))])) t_
        refine XS.goto X6.here hx rfl (pc0 := 115) (pc' := 119) rfl (hb hby at_115) (by decide) (by decide) ?_
        show Steps p_.tables e_ below (T6.setTop (mkF m_ 119 #[.val (.int pa), .val (.int pb), .val (.int pc), .val (.int pd), .val (.int pe), .val (.int (if (pa &&& (1 : Int32)) = (0 : Int32) then (0 : Int32) else 1)), .val (.int (0 : Int32)), .val (.ref b1), .val (.ref b2), .val (.ref b4)] [(.int (1 : Int32))])) t_
        exact k_
      refine own_retN X6 hx hlk (t := .boolean) hret (by simp) (hb hby at_119) (by decide) (by decide) ?_
      exact ⟨⟨rfl, N6⟩, by rw [e6]; exact ZK⟩
    · refine own_stW T1 (mkF m_ 77 #[.val (.int pa), .val (.int pb), .val (.int pc), .val (.int pd), .val (.int pe), .val (.int (if (pa &&& (1 : Int32)) = (0 : Int32) then (0 : Int32) else 1)), .val (.int (0 : Int32)), .val (.ref b1), .unset, .unset] []) (fun t_ k_ => XS.ifNo X1.here hx rfl (hb hby at_74) rfl ((if0 _ _).trans (feq (own_nf hc74)).1) k_) ?_
      refine own_OutW.of ?_
      refine own_st T1 (mkF m_ 92 #[.val (.int pa), .val (.int pb), .val (.int pc), .val (.int pd), .val (.int pe), .val (.int (if (pa &&& (1 : Int32)) = (0 : Int32) then (0 : Int32) else 1)), .val (.int (0 : Int32)), .val (.ref b1), .val .null, .unset] []) (fun t_ k_ => ?_) ?_
      · refine XS.aconstNull X1.here hx rfl (hb hby at_77) ?_
        show Steps p_.tables e_ below (T1.setTop (mkF m_ 78 #[.val (.int pa), .val (.int pb), .val (.int pc), .val (.int pd), .val (.int pe), .val (.int (if (pa &&& (1 : Int32)) = (0 : Int32) then (0 : Int32) else 1)), .val (.int (0 : Int32)), .val (.ref b1), .unset, .unset] [.null])) t_
        refine XS.goto X1.here hx rfl (pc0 := 78) (pc' := 90) rfl (hb hby at_78) (by decide) (by decide) ?_
        show Steps p_.tables e_ below (T1.setTop (mkF m_ 90 #[.val (.int pa), .val (.int pb), .val (.int pc), .val (.int pd), .val (.int pe), .val (.int (if (pa &&& (1 : Int32)) = (0 : Int32) then (0 : Int32) else 1)), .val (.int (0 : Int32)), .val (.ref b1), .unset, .unset] [.null])) t_
        refine XS.astore X1.here hx rfl (hb hby at_90) rfl rfl (l' := #[.val (.int pa), .val (.int pb), .val (.int pc), .val (.int pd), .val (.int pe), .val (.int (if (pa &&& (1 : Int32)) = (0 : Int32) then (0 : Int32) else 1)), .val (.int (0 : Int32)), .val (.ref b1), .val .null, .unset]) rfl ?_
        show Steps p_.tables e_ below (T1.setTop (mkF m_ 92 #[.val (.int pa), .val (.int pb), .val (.int pc), .val (.int pd), .val (.int pe), .val (.int (if (pa &&& (1 : Int32)) = (0 : Int32) then (0 : Int32) else 1)), .val (.int (0 : Int32)), .val (.ref b1), .val .null, .unset] [])) t_
        exact k_
      obtain ⟨T7, h7, X7, e7, E7, A7, D7, -, st7⟩ := newO X1 hx hZ hown (hw _ (List.mem_of_getElem? (i := 30) rfl)) (hw _ (List.mem_of_getElem? (i := 31) rfl)) (hw _ (List.mem_of_getElem? (i := 32) rfl)) e1 (g := (mkF m_ 92 #[.val (.int pa), .val (.int pb), .val (.int pc), .val (.int pd), .val (.int pe), .val (.int (if (pa &&& (1 : Int32)) = (0 : Int32) then (0 : Int32) else 1)), .val (.int (0 : Int32)), .val (.ref b1), .val .null, .unset] [])) rfl (hb hby at_92) (by decide) (by decide)
      obtain ⟨b7, g7⟩ : ∃ z, z = h1.size := ⟨_, rfl⟩
      rw [← g7] at A7 D7 st7
      have g_b7 : n0 ≤ b7 := g7 ▸ Z0
      have ne_b1_b7 : b1 ≠ b7 := Nat.ne_of_lt (Nat.lt_of_lt_of_le A_b1.lt (Nat.le_of_eq g7.symm))
      replace O := O.ext E7
      replace A_b1 := A_b1.ext E7
      replace Z0 : n0 ≤ h7.size := Nat.le_trans Z0 E7.1
      have F_values_b7 : Fld Z h7 b7 "com/example/mustr/mustr/rules/FieldValues" "values" "Ljava/util/Map;" .null := D7 (Or.inr (hw _ (List.mem_of_getElem? (i := 43) rfl))) (ty := (.object "java/util/Map")) (by decide)
      have F_unreadable_b7 : Fld Z h7 b7 "com/example/mustr/mustr/rules/FieldValues" "unreadable" "Ljava/lang/String;" .null := D7 (Or.inr (hw _ (List.mem_of_getElem? (i := 45) rfl))) (ty := (.object "java/lang/String")) (by decide)
      have E_b7 := A7
      refine own_st T7 (mkF m_ 95 #[.val (.int pa), .val (.int pb), .val (.int pc), .val (.int pd), .val (.int pe), .val (.int (if (pa &&& (1 : Int32)) = (0 : Int32) then (0 : Int32) else 1)), .val (.int (0 : Int32)), .val (.ref b1), .val .null, .unset] [(.ref b7)]) st7 ?_
      refine own_st T7 (mkF m_ 99 #[.val (.int pa), .val (.int pb), .val (.int pc), .val (.int pd), .val (.int pe), .val (.int (if (pa &&& (1 : Int32)) = (0 : Int32) then (0 : Int32) else 1)), .val (.int (0 : Int32)), .val (.ref b1), .val .null, .unset] [.null, .null, (.ref b7), (.ref b7)]) (fun t_ k_ => ?_) ?_
      · refine XS.dup X7.here hx rfl (hb hby at_95) rfl rfl ?_
        show Steps p_.tables e_ below (T7.setTop (mkF m_ 96 #[.val (.int pa), .val (.int pb), .val (.int pc), .val (.int pd), .val (.int pe), .val (.int (if (pa &&& (1 : Int32)) = (0 : Int32) then (0 : Int32) else 1)), .val (.int (0 : Int32)), .val (.ref b1), .val .null, .unset] [(.ref b7), (.ref b7)])) t_
        refine XS.aconstNull X7.here hx rfl (hb hby at_96) ?_
        show Steps p_.tables e_ below (T7.setTop (mkF m_ 97 #[.val (.int pa), .val (.int pb), .val (.int pc), .val (.int pd), .val (.int pe), .val (.int (if (pa &&& (1 : Int32)) = (0 : Int32) then (0 : Int32) else 1)), .val (.int (0 : Int32)), .val (.ref b1), .val .null, .unset] [.null, (.ref b7), (.ref b7)])) t_
        refine XS.aload X7.here hx rfl (hb hby at_97) rfl rfl ?_
        show Steps p_.tables e_ below (T7.setTop (mkF m_ 99 #[.val (.int pa), .val (.int pb), .val (.int pc), .val (.int pd), .val (.int pe), .val (.int (if (pa &&& (1 : Int32)) = (0 : Int32) then (0 : Int32) else 1)), .val (.int (0 : Int32)), .val (.ref b1), .val .null, .unset] [.null, .null, (.ref b7), (.ref b7)])) t_
        exact k_
      refine own_callC X7 hx hZ rfl hown (hw _ (List.mem_of_getElem? (i := 33) rfl)) (hw _ (List.mem_of_getElem? (i := 34) rfl)) (hw _ (List.mem_of_getElem? (i := 32) rfl)) (hw _ (List.mem_of_getElem? (i := 35) rfl)) (by decide) b7 [.null, .null] [(.ref b7)] (rm7N l Z a0 hw b7 h7 n0 Z0 E_b7 F_values_b7 F_unreadable_b7 g_b7) 1 (by decide) (by decide) e7 (by rw [hml]; rfl) (lenOf own_pd6 rfl) rfl (Nat.le_of_eq rfl) (hb hby at_99) (by decide) (by decide) ?_
      intro v8 T8 L8 X8 q8
      obtain ⟨rfl, N8q, K8, Eq8, Fq8_values, Fq8_unreadable⟩ := q8
      have N8 := Fr.app N0 N8q
      replace O := O.keep K8 (allS g_b7 all0)
      replace A_b1 := A_b1.keep K8 (ninS ne_b1_b7 nin0)
      -- F_values_b7 is dropped: written by the callee
      -- F_unreadable_b7 is dropped: written by the callee
      replace E_b7 := E_b7.keep K8
      replace Z0 : n0 ≤ T8.heap.size := Nat.le_trans Z0 K8.1
      have F_values_b7 := Fq8_values
      have F_unreadable_b7 := Fq8_unreadable
      show own_Out p_ e_ below _ _ _ _ T8 (mkF m_ 102 #[.val (.int pa), .val (.int pb), .val (.int pc), .val (.int pd), .val (.int pe), .val (.int (if (pa &&& (1 : Int32)) = (0 : Int32) then (0 : Int32) else 1)), .val (.int (0 : Int32)), .val (.ref b1), .val .null, .unset] [(.ref b7)])
      refine own_st T8 (mkF m_ 106 #[.val (.int pa), .val (.int pb), .val (.int pc), .val (.int pd), .val (.int pe), .val (.int (if (pa &&& (1 : Int32)) = (0 : Int32) then (0 : Int32) else 1)), .val (.int (0 : Int32)), .val (.ref b1), .val .null, .val (.ref b7)] [(.ref b7)]) (fun t_ k_ => ?_) ?_
      · refine XS.astore X8.here hx rfl (hb hby at_102) rfl rfl (l' := #[.val (.int pa), .val (.int pb), .val (.int pc), .val (.int pd), .val (.int pe), .val (.int (if (pa &&& (1 : Int32)) = (0 : Int32) then (0 : Int32) else 1)), .val (.int (0 : Int32)), .val (.ref b1), .val .null, .val (.ref b7)]) rfl ?_
        show Steps p_.tables e_ below (T8.setTop (mkF m_ 104 #[.val (.int pa), .val (.int pb), .val (.int pc), .val (.int pd), .val (.int pe), .val (.int (if (pa &&& (1 : Int32)) = (0 : Int32) then (0 : Int32) else 1)), .val (.int (0 : Int32)), .val (.ref b1), .val .null, .val (.ref b7)] [])) t_
        refine XS.aload X8.here hx rfl (hb hby at_104) rfl rfl ?_
        show Steps p_.tables e_ below (T8.setTop (mkF m_ 106 #[.val (.int pa), .val (.int pb), .val (.int pc), .val (.int pd), .val (.int pe), .val (.int (if (pa &&& (1 : Int32)) = (0 : Int32) then (0 : Int32) else 1)), .val (.int (0 : Int32)), .val (.ref b1), .val .null, .val (.ref b7)] [(.ref b7)])) t_
        exact k_
      refine own_callV X8 hx hZ (y := (⟨"com/example/mustr/mustr/rules/FieldValues", "isRead", "()Z"⟩ : MethodName)) (z := (⟨"com/example/mustr/mustr/rules/FieldValues", "isRead", "()Z"⟩ : MethodName)) hown (hw _ (List.mem_of_getElem? (i := 46) rfl)) (hw _ (List.mem_of_getElem? (i := 47) rfl)) (notFace_of_selects (args := #[]) (mvT hZ (hw _ (List.mem_of_getElem? (i := 49) rfl)))) (hw _ (List.mem_of_getElem? (i := 49) rfl)) (hw _ (List.mem_of_getElem? (i := 48) rfl)) (hw _ (List.mem_of_getElem? (i := 32) rfl)) (hw _ (List.mem_of_getElem? (i := 50) rfl)) (by decide) b7 [] [] E_b7 (rm9N l Z a0 hw b7 T8.heap n0 Z0 F_unreadable_b7) 0 (by decide) (by decide) rfl (by rw [hml]; rfl) (lenOf own_pd7 rfl) rfl (Nat.le_of_eq rfl) (hb hby at_106) (by decide) (by decide) ?_
      intro v9 T9 L9 X9 q9
      obtain ⟨rfl, N9q, e9⟩ := q9
      have N9 := Fr.app N8 N9q
      show own_Out p_ e_ below _ _ _ _ T9 (mkF m_ 109 #[.val (.int pa), .val (.int pb), .val (.int pc), .val (.int pd), .val (.int pe), .val (.int (if (pa &&& (1 : Int32)) = (0 : Int32) then (0 : Int32) else 1)), .val (.int (0 : Int32)), .val (.ref b1), .val .null, .val (.ref b7)] [(.int (1 : Int32))])
      refine own_st T9 (mkF m_ 119 #[.val (.int pa), .val (.int pb), .val (.int pc), .val (.int pd), .val (.int pe), .val (.int (if (pa &&& (1 : Int32)) = (0 : Int32) then (0 : Int32) else 1)), .val (.int (0 : Int32)), .val (.ref b1), .val .null, .val (.ref b7)] [(.int (1 : Int32))]) (fun t_ k_ => ?_) ?_
      · refine XS.iload X9.here hx rfl (hb hby at_109) rfl ?_
        show Steps p_.tables e_ below (T9.setTop (mkF m_ 111 #[.val (.int pa), .val (.int pb), .val (.int pc), .val (.int pd), .val (.int pe), .val (.int (if (pa &&& (1 : Int32)) = (0 : Int32) then (0 : Int32) else 1)), .val (.int (0 : Int32)), .val (.ref b1), .val .null, .val (.ref b7)] [(.int (if (pa &&& (1 : Int32)) = (0 : Int32) then (0 : Int32) else 1)), (.int (1 : Int32))])) t_
        refine XS.icmpNo X9.here hx rfl (hb hby at_111) rfl (teq (by rw [if_neg hc74] : (1 : Int32) = (if (pa &&& (1 : Int32)) = (0 : Int32) then (0 : Int32) else 1))).2 ?_
        show Steps p_.tables e_ below (T9.setTop (mkF m_ 114 #[.val (.int pa), .val (.int pb), .val (.int pc), .val (.int pd), .val (.int pe), .val (.int (if (pa &&& (1 : Int32)) = (0 : Int32) then (0 : Int32) else 1)), .val (.int (0 : Int32)), .val (.ref b1), .val .null, .val (.ref b7)] [])) t_
        refine XS.iconst X9.here hx rfl (hb hby at_114) ?_
        show Steps p_.tables e_ below (T9.setTop (mkF m_ 115 #[.val (.int pa), .val (.int pb), .val (.int pc), .val (.int pd), .val (.int pe), .val (.int (if (pa &&& (1 : Int32)) = (0 : Int32) then (0 : Int32) else 1)), .val (.int (0 : Int32)), .val (.ref b1), .val .null, .val (.ref b7)] [(.int (1 : Int32))])) t_
        refine XS.goto X9.here hx rfl (pc0 := 115) (pc' := 119) rfl (hb hby at_115) (by decide) (by decide) ?_
        show Steps p_.tables e_ below (T9.setTop (mkF m_ 119 #[.val (.int pa), .val (.int pb), .val (.int pc), .val (.int pd), .val (.int pe), .val (.int (if (pa &&& (1 : Int32)) = (0 : Int32) then (0 : Int32) else 1)), .val (.int (0 : Int32)), .val (.ref b1), .val .null, .val (.ref b7)] [(.int (1 : Int32))])) t_
        exact k_
      refine own_retN X9 hx hlk (t := .boolean) hret (by simp) (hb hby at_119) (by decide) (by decide) ?_
      exact ⟨rfl, N9⟩
  · skip
    by_cases hn1 : pb &&& (3 : Int32) = 1
    · refine own_OutW.of ?_
      refine own_st s₁ (mkF m_ 20 #[.val (.int pa), .val (.int pb), .val (.int pc), .val (.int pd), .val (.int pe), .val (.int (if (pa &&& (1 : Int32)) = (0 : Int32) then (0 : Int32) else 1)), .val (.int (1 : Int32)), .unset, .unset, .unset] [(.int (1 : Int32))]) (fun t_ k_ => ?_) ?_
      · refine XS.iloadN X0.here hx rfl (hb hby at_0) rfl ?_
        show Steps p_.tables e_ below (s₁.setTop (mkF m_ 1 #[.val (.int pa), .val (.int pb), .val (.int pc), .val (.int pd), .val (.int pe), .unset, .unset, .unset, .unset, .unset] [(.int pa)])) t_
        refine XS.iconst X0.here hx rfl (hb hby at_1) ?_
        show Steps p_.tables e_ below (s₁.setTop (mkF m_ 2 #[.val (.int pa), .val (.int pb), .val (.int pc), .val (.int pd), .val (.int pe), .unset, .unset, .unset, .unset, .unset] [(.int (1 : Int32)), (.int pa)])) t_
        refine XS.iand X0.here hx rfl (hb hby at_2) rfl ?_
        show Steps p_.tables e_ below (s₁.setTop (mkF m_ 3 #[.val (.int pa), .val (.int pb), .val (.int pc), .val (.int pd), .val (.int pe), .unset, .unset, .unset, .unset, .unset] [(.int (pa &&& (1 : Int32)))])) t_
        have jn3 : ∀ t_, Steps p_.tables e_ below (s₁.setTop (mkF m_ 11 #[.val (.int pa), .val (.int pb), .val (.int pc), .val (.int pd), .val (.int pe), .unset, .unset, .unset, .unset, .unset] [(.int (if (pa &&& (1 : Int32)) = (0 : Int32) then (0 : Int32) else 1))])) t_ → Steps p_.tables e_ below (s₁.setTop (mkF m_ 3 #[.val (.int pa), .val (.int pb), .val (.int pc), .val (.int pd), .val (.int pe), .unset, .unset, .unset, .unset, .unset] [(.int (pa &&& (1 : Int32)))])) t_ := by
          intro t_ k_
          by_cases hc3 : (pa &&& (1 : Int32)) = (0 : Int32)
          · refine XS.ifYes X0.here hx rfl (pc0 := 3) (pc' := 10) rfl (hb hby at_3) rfl ((if0 _ _).trans (teq hc3).1) (by decide) (by decide) ?_
            show Steps p_.tables e_ below (s₁.setTop (mkF m_ 10 #[.val (.int pa), .val (.int pb), .val (.int pc), .val (.int pd), .val (.int pe), .unset, .unset, .unset, .unset, .unset] [])) t_
            refine XS.iconst X0.here hx rfl (hb hby at_10) ?_
            show Steps p_.tables e_ below (s₁.setTop (mkF m_ 11 #[.val (.int pa), .val (.int pb), .val (.int pc), .val (.int pd), .val (.int pe), .unset, .unset, .unset, .unset, .unset] [(.int (0 : Int32))])) t_
            simp only [if_pos hc3] at k_ ⊢
            exact k_
          · refine XS.ifNo X0.here hx rfl (hb hby at_3) rfl ((if0 _ _).trans (feq hc3).1) ?_
            show Steps p_.tables e_ below (s₁.setTop (mkF m_ 6 #[.val (.int pa), .val (.int pb), .val (.int pc), .val (.int pd), .val (.int pe), .unset, .unset, .unset, .unset, .unset] [])) t_
            refine XS.iconst X0.here hx rfl (hb hby at_6) ?_
            show Steps p_.tables e_ below (s₁.setTop (mkF m_ 7 #[.val (.int pa), .val (.int pb), .val (.int pc), .val (.int pd), .val (.int pe), .unset, .unset, .unset, .unset, .unset] [(.int (1 : Int32))])) t_
            refine XS.goto X0.here hx rfl (pc0 := 7) (pc' := 11) rfl (hb hby at_7) (by decide) (by decide) ?_
            show Steps p_.tables e_ below (s₁.setTop (mkF m_ 11 #[.val (.int pa), .val (.int pb), .val (.int pc), .val (.int pd), .val (.int pe), .unset, .unset, .unset, .unset, .unset] [(.int (1 : Int32))])) t_
            simp only [if_neg hc3] at k_ ⊢
            exact k_
        refine jn3 _ ?_
        show Steps p_.tables e_ below (s₁.setTop (mkF m_ 11 #[.val (.int pa), .val (.int pb), .val (.int pc), .val (.int pd), .val (.int pe), .unset, .unset, .unset, .unset, .unset] [(.int (if (pa &&& (1 : Int32)) = (0 : Int32) then (0 : Int32) else 1))])) t_
        refine XS.istore X0.here hx rfl (hb hby at_11) rfl (l' := #[.val (.int pa), .val (.int pb), .val (.int pc), .val (.int pd), .val (.int pe), .val (.int (if (pa &&& (1 : Int32)) = (0 : Int32) then (0 : Int32) else 1)), .unset, .unset, .unset, .unset]) rfl ?_
        show Steps p_.tables e_ below (s₁.setTop (mkF m_ 13 #[.val (.int pa), .val (.int pb), .val (.int pc), .val (.int pd), .val (.int pe), .val (.int (if (pa &&& (1 : Int32)) = (0 : Int32) then (0 : Int32) else 1)), .unset, .unset, .unset, .unset] [])) t_
        refine XS.iloadN X0.here hx rfl (hb hby at_13) rfl ?_
        show Steps p_.tables e_ below (s₁.setTop (mkF m_ 14 #[.val (.int pa), .val (.int pb), .val (.int pc), .val (.int pd), .val (.int pe), .val (.int (if (pa &&& (1 : Int32)) = (0 : Int32) then (0 : Int32) else 1)), .unset, .unset, .unset, .unset] [(.int pb)])) t_
        refine XS.iconst X0.here hx rfl (hb hby at_14) ?_
        show Steps p_.tables e_ below (s₁.setTop (mkF m_ 15 #[.val (.int pa), .val (.int pb), .val (.int pc), .val (.int pd), .val (.int pe), .val (.int (if (pa &&& (1 : Int32)) = (0 : Int32) then (0 : Int32) else 1)), .unset, .unset, .unset, .unset] [(.int (3 : Int32)), (.int pb)])) t_
        refine XS.iand X0.here hx rfl (hb hby at_15) rfl ?_
        rw [hn1]
        show Steps p_.tables e_ below (s₁.setTop (mkF m_ 16 #[.val (.int pa), .val (.int pb), .val (.int pc), .val (.int pd), .val (.int pe), .val (.int (if (pa &&& (1 : Int32)) = (0 : Int32) then (0 : Int32) else 1)), .unset, .unset, .unset, .unset] [(.int (1 : Int32))])) t_
        refine XS.istore X0.here hx rfl (hb hby at_16) rfl (l' := #[.val (.int pa), .val (.int pb), .val (.int pc), .val (.int pd), .val (.int pe), .val (.int (if (pa &&& (1 : Int32)) = (0 : Int32) then (0 : Int32) else 1)), .val (.int (1 : Int32)), .unset, .unset, .unset]) rfl ?_
        show Steps p_.tables e_ below (s₁.setTop (mkF m_ 18 #[.val (.int pa), .val (.int pb), .val (.int pc), .val (.int pd), .val (.int pe), .val (.int (if (pa &&& (1 : Int32)) = (0 : Int32) then (0 : Int32) else 1)), .val (.int (1 : Int32)), .unset, .unset, .unset] [])) t_
        refine XS.iload X0.here hx rfl (hb hby at_18) rfl ?_
        show Steps p_.tables e_ below (s₁.setTop (mkF m_ 20 #[.val (.int pa), .val (.int pb), .val (.int pc), .val (.int pd), .val (.int pe), .val (.int (if (pa &&& (1 : Int32)) = (0 : Int32) then (0 : Int32) else 1)), .val (.int (1 : Int32)), .unset, .unset, .unset] [(.int (1 : Int32))])) t_
        exact k_
      obtain ⟨T10, h10, k10, X10, e10, E10, A10, st10⟩ := newP X0 hx hZ (hw _ (List.mem_of_getElem? (i := 0) rfl)) e0 (g := (mkF m_ 20 #[.val (.int pa), .val (.int pb), .val (.int pc), .val (.int pd), .val (.int pe), .val (.int (if (pa &&& (1 : Int32)) = (0 : Int32) then (0 : Int32) else 1)), .val (.int (1 : Int32)), .unset, .unset, .unset] [(.int (1 : Int32))])) rfl (hb hby at_20) rfl (by decide) (cap := 1) (by decide) (by decide) (by decide) (by decide)
      obtain ⟨b10, g10⟩ : ∃ z, z = h0.size := ⟨_, rfl⟩
      rw [← g10] at A10 st10
      have g_b10 : n0 ≤ b10 := g10 ▸ Z0
      replace O := O.ext E10
      replace Z0 : n0 ≤ h10.size := Nat.le_trans Z0 E10.1
      have A_b10 : own_A Z h10 b10 k10 .char 1 (fun x_ => .int (([(0 : Int32)] : List Int32).getD x_ 0)) := own_A.newLI A10 (by decide) 1 (by decide) rfl
      refine own_st T10 (mkF m_ 22 #[.val (.int pa), .val (.int pb), .val (.int pc), .val (.int pd), .val (.int pe), .val (.int (if (pa &&& (1 : Int32)) = (0 : Int32) then (0 : Int32) else 1)), .val (.int (1 : Int32)), .unset, .unset, .unset] [(.ref b10)]) st10 ?_
      refine own_st T10 (mkF m_ 38 #[.val (.int pa), .val (.int pb), .val (.int pc), .val (.int pd), .val (.int pe), .val (.int (if (pa &&& (1 : Int32)) = (0 : Int32) then (0 : Int32) else 1)), .val (.int (1 : Int32)), .val (.ref b10), .unset, .unset] [(.int ((pc &&& (255 : Int32)).toUInt32.toUInt16.toUInt32.toInt32)), (.int (0 : Int32)), (.ref b10)]) (fun t_ k_ => ?_) ?_
      · refine XS.astore X10.here hx rfl (hb hby at_22) rfl rfl (l' := #[.val (.int pa), .val (.int pb), .val (.int pc), .val (.int pd), .val (.int pe), .val (.int (if (pa &&& (1 : Int32)) = (0 : Int32) then (0 : Int32) else 1)), .val (.int (1 : Int32)), .val (.ref b10), .unset, .unset]) rfl ?_
        show Steps p_.tables e_ below (T10.setTop (mkF m_ 24 #[.val (.int pa), .val (.int pb), .val (.int pc), .val (.int pd), .val (.int pe), .val (.int (if (pa &&& (1 : Int32)) = (0 : Int32) then (0 : Int32) else 1)), .val (.int (1 : Int32)), .val (.ref b10), .unset, .unset] [])) t_
        refine XS.iload X10.here hx rfl (hb hby at_24) rfl ?_
        show Steps p_.tables e_ below (T10.setTop (mkF m_ 26 #[.val (.int pa), .val (.int pb), .val (.int pc), .val (.int pd), .val (.int pe), .val (.int (if (pa &&& (1 : Int32)) = (0 : Int32) then (0 : Int32) else 1)), .val (.int (1 : Int32)), .val (.ref b10), .unset, .unset] [(.int (1 : Int32))])) t_
        refine XS.ifNo X10.here hx rfl (hb hby at_26) rfl ((if0 _ _).trans (tlt (by decide : (0 : Int32) < (1 : Int32))).2.2.2) ?_
        show Steps p_.tables e_ below (T10.setTop (mkF m_ 29 #[.val (.int pa), .val (.int pb), .val (.int pc), .val (.int pd), .val (.int pe), .val (.int (if (pa &&& (1 : Int32)) = (0 : Int32) then (0 : Int32) else 1)), .val (.int (1 : Int32)), .val (.ref b10), .unset, .unset] [])) t_
        refine XS.aload X10.here hx rfl (hb hby at_29) rfl rfl ?_
        show Steps p_.tables e_ below (T10.setTop (mkF m_ 31 #[.val (.int pa), .val (.int pb), .val (.int pc), .val (.int pd), .val (.int pe), .val (.int (if (pa &&& (1 : Int32)) = (0 : Int32) then (0 : Int32) else 1)), .val (.int (1 : Int32)), .val (.ref b10), .unset, .unset] [(.ref b10)])) t_
        refine XS.iconst X10.here hx rfl (hb hby at_31) ?_
        show Steps p_.tables e_ below (T10.setTop (mkF m_ 32 #[.val (.int pa), .val (.int pb), .val (.int pc), .val (.int pd), .val (.int pe), .val (.int (if (pa &&& (1 : Int32)) = (0 : Int32) then (0 : Int32) else 1)), .val (.int (1 : Int32)), .val (.ref b10), .unset, .unset] [(.int (0 : Int32)), (.ref b10)])) t_
        refine XS.iloadN X10.here hx rfl (hb hby at_32) rfl ?_
        show Steps p_.tables e_ below (T10.setTop (mkF m_ 33 #[.val (.int pa), .val (.int pb), .val (.int pc), .val (.int pd), .val (.int pe), .val (.int (if (pa &&& (1 : Int32)) = (0 : Int32) then (0 : Int32) else 1)), .val (.int (1 : Int32)), .val (.ref b10), .unset, .unset] [(.int pc), (.int (0 : Int32)), (.ref b10)])) t_
        refine XS.sipush X10.here hx rfl (hb hby at_33) ?_
        show Steps p_.tables e_ below (T10.setTop (mkF m_ 36 #[.val (.int pa), .val (.int pb), .val (.int pc), .val (.int pd), .val (.int pe), .val (.int (if (pa &&& (1 : Int32)) = (0 : Int32) then (0 : Int32) else 1)), .val (.int (1 : Int32)), .val (.ref b10), .unset, .unset] [(.int (255 : Int32)), (.int pc), (.int (0 : Int32)), (.ref b10)])) t_
        refine XS.iand X10.here hx rfl (hb hby at_36) rfl ?_
        show Steps p_.tables e_ below (T10.setTop (mkF m_ 37 #[.val (.int pa), .val (.int pb), .val (.int pc), .val (.int pd), .val (.int pe), .val (.int (if (pa &&& (1 : Int32)) = (0 : Int32) then (0 : Int32) else 1)), .val (.int (1 : Int32)), .val (.ref b10), .unset, .unset] [(.int (pc &&& (255 : Int32))), (.int (0 : Int32)), (.ref b10)])) t_
        refine XS.i2c X10.here hx rfl (hb hby at_37) rfl ?_
        show Steps p_.tables e_ below (T10.setTop (mkF m_ 38 #[.val (.int pa), .val (.int pb), .val (.int pc), .val (.int pd), .val (.int pe), .val (.int (if (pa &&& (1 : Int32)) = (0 : Int32) then (0 : Int32) else 1)), .val (.int (1 : Int32)), .val (.ref b10), .unset, .unset] [(.int ((pc &&& (255 : Int32)).toUInt32.toUInt16.toUInt32.toInt32)), (.int (0 : Int32)), (.ref b10)])) t_
        exact k_
      obtain ⟨T11, h11, X11, e11, W11, st11⟩ := own_stC X10 hx hZ e10 A_b10 ((pc &&& (255 : Int32)).toUInt32.toUInt16.toUInt32.toInt32) (own_nc _) 0 (by decide) (by decide) (j := (0 : Int32)) (x := ((pc &&& (255 : Int32)).toUInt32.toUInt16.toUInt32.toInt32)) (Ls := #[.val (.int pa), .val (.int pb), .val (.int pc), .val (.int pd), .val (.int pe), .val (.int (if (pa &&& (1 : Int32)) = (0 : Int32) then (0 : Int32) else 1)), .val (.int (1 : Int32)), .val (.ref b10), .unset, .unset]) (rest := []) (hb hby at_38)
      have N11 := Fr.snoc X11 N0 g_b10
      replace Z0 : n0 ≤ h11.size := W11.size ▸ Z0
      replace O := O.wr W11 g_b10
      replace A_b10 : own_A Z h11 b10 k10 .char 1 (fun x_ => .int (([((pc &&& (255 : Int32)).toUInt32.toUInt16.toUInt32.toInt32)] : List Int32).getD x_ 0)) := A_b10.setLI (by decide) (Nat.le_of_ble_eq_true rfl) W11
      refine own_st T11 (mkF m_ 39 #[.val (.int pa), .val (.int pb), .val (.int pc), .val (.int pd), .val (.int pe), .val (.int (if (pa &&& (1 : Int32)) = (0 : Int32) then (0 : Int32) else 1)), .val (.int (1 : Int32)), .val (.ref b10), .unset, .unset] []) st11 ?_
      refine own_st T11 (mkF m_ 74 #[.val (.int pa), .val (.int pb), .val (.int pc), .val (.int pd), .val (.int pe), .val (.int (if (pa &&& (1 : Int32)) = (0 : Int32) then (0 : Int32) else 1)), .val (.int (1 : Int32)), .val (.ref b10), .unset, .unset] [(.int (if (pa &&& (1 : Int32)) = (0 : Int32) then (0 : Int32) else 1))]) (fun t_ k_ => ?_) ?_
      · refine XS.iload X11.here hx rfl (hb hby at_39) rfl ?_
        show Steps p_.tables e_ below (T11.setTop (mkF m_ 41 #[.val (.int pa), .val (.int pb), .val (.int pc), .val (.int pd), .val (.int pe), .val (.int (if (pa &&& (1 : Int32)) = (0 : Int32) then (0 : Int32) else 1)), .val (.int (1 : Int32)), .val (.ref b10), .unset, .unset] [(.int (1 : Int32))])) t_
        refine XS.iconst X11.here hx rfl (hb hby at_41) ?_
        show Steps p_.tables e_ below (T11.setTop (mkF m_ 42 #[.val (.int pa), .val (.int pb), .val (.int pc), .val (.int pd), .val (.int pe), .val (.int (if (pa &&& (1 : Int32)) = (0 : Int32) then (0 : Int32) else 1)), .val (.int (1 : Int32)), .val (.ref b10), .unset, .unset] [(.int (1 : Int32)), (.int (1 : Int32))])) t_
        refine XS.icmpYes X11.here hx rfl (pc0 := 42) (pc' := 55) rfl (hb hby at_42) rfl (flt (by decide : ¬ ((1 : Int32) < (1 : Int32)))).2.2.2 (by decide) (by decide) ?_
        show Steps p_.tables e_ below (T11.setTop (mkF m_ 55 #[.val (.int pa), .val (.int pb), .val (.int pc), .val (.int pd), .val (.int pe), .val (.int (if (pa &&& (1 : Int32)) = (0 : Int32) then (0 : Int32) else 1)), .val (.int (1 : Int32)), .val (.ref b10), .unset, .unset] [])) t_
        refine XS.iload X11.here hx rfl (hb hby at_55) rfl ?_
        show Steps p_.tables e_ below (T11.setTop (mkF m_ 57 #[.val (.int pa), .val (.int pb), .val (.int pc), .val (.int pd), .val (.int pe), .val (.int (if (pa &&& (1 : Int32)) = (0 : Int32) then (0 : Int32) else 1)), .val (.int (1 : Int32)), .val (.ref b10), .unset, .unset] [(.int (1 : Int32))])) t_
        refine XS.iconst X11.here hx rfl (hb hby at_57) ?_
        show Steps p_.tables e_ below (T11.setTop (mkF m_ 58 #[.val (.int pa), .val (.int pb), .val (.int pc), .val (.int pd), .val (.int pe), .val (.int (if (pa &&& (1 : Int32)) = (0 : Int32) then (0 : Int32) else 1)), .val (.int (1 : Int32)), .val (.ref b10), .unset, .unset] [(.int (2 : Int32)), (.int (1 : Int32))])) t_
        refine XS.icmpYes X11.here hx rfl (pc0 := 58) (pc' := 72) rfl (hb hby at_58) rfl (flt (by decide : ¬ ((2 : Int32) < (1 : Int32)))).2.2.2 (by decide) (by decide) ?_
        show Steps p_.tables e_ below (T11.setTop (mkF m_ 72 #[.val (.int pa), .val (.int pb), .val (.int pc), .val (.int pd), .val (.int pe), .val (.int (if (pa &&& (1 : Int32)) = (0 : Int32) then (0 : Int32) else 1)), .val (.int (1 : Int32)), .val (.ref b10), .unset, .unset] [])) t_
        refine XS.iload X11.here hx rfl (hb hby at_72) rfl ?_
        show Steps p_.tables e_ below (T11.setTop (mkF m_ 74 #[.val (.int pa), .val (.int pb), .val (.int pc), .val (.int pd), .val (.int pe), .val (.int (if (pa &&& (1 : Int32)) = (0 : Int32) then (0 : Int32) else 1)), .val (.int (1 : Int32)), .val (.ref b10), .unset, .unset] [(.int (if (pa &&& (1 : Int32)) = (0 : Int32) then (0 : Int32) else 1))])) t_
        exact k_
      by_cases hc74 : (pa &&& (1 : Int32)) = (0 : Int32)
      · refine own_st T11 (mkF m_ 81 #[.val (.int pa), .val (.int pb), .val (.int pc), .val (.int pd), .val (.int pe), .val (.int (if (pa &&& (1 : Int32)) = (0 : Int32) then (0 : Int32) else 1)), .val (.int (1 : Int32)), .val (.ref b10), .unset, .unset] []) (fun t_ k_ => XS.ifYes X11.here hx rfl (pc0 := 74) (pc' := 81) rfl (hb hby at_74) rfl ((if0 _ _).trans (teq (own_nt hc74)).1) (by decide) (by decide) k_) ?_
        obtain ⟨T12, h12, X12, e12, E12, A12, D12, -, st12⟩ := newO X11 hx hZ hown (hw _ (List.mem_of_getElem? (i := 1) rfl)) (hw _ (List.mem_of_getElem? (i := 2) rfl)) (hw _ (List.mem_of_getElem? (i := 3) rfl)) e11 (g := (mkF m_ 81 #[.val (.int pa), .val (.int pb), .val (.int pc), .val (.int pd), .val (.int pe), .val (.int (if (pa &&& (1 : Int32)) = (0 : Int32) then (0 : Int32) else 1)), .val (.int (1 : Int32)), .val (.ref b10), .unset, .unset] [])) rfl (hb hby at_81) (by decide) (by decide)
        obtain ⟨b12, g12⟩ : ∃ z, z = h11.size := ⟨_, rfl⟩
        rw [← g12] at A12 D12 st12
        have g_b12 : n0 ≤ b12 := g12 ▸ Z0
        have ne_b10_b12 : b10 ≠ b12 := Nat.ne_of_lt (Nat.lt_of_lt_of_le A_b10.lt (Nat.le_of_eq g12.symm))
        replace O := O.ext E12
        replace A_b10 := A_b10.ext E12
        replace Z0 : n0 ≤ h12.size := Nat.le_trans Z0 E12.1
        have F_coder_b12 : Fld Z h12 b12 "java/lang/String" "coder" "B" (.int (0 : Int32)) := D12 (Or.inr (hw _ (List.mem_of_getElem? (i := 27) rfl))) (ty := .byte) (by decide)
        have F_value_b12 : Fld Z h12 b12 "java/lang/String" "value" "[B" .null := D12 (Or.inr (hw _ (List.mem_of_getElem? (i := 29) rfl))) (ty := (.array .byte)) (by decide)
        have E_b12 := A12
        refine own_st T12 (mkF m_ 84 #[.val (.int pa), .val (.int pb), .val (.int pc), .val (.int pd), .val (.int pe), .val (.int (if (pa &&& (1 : Int32)) = (0 : Int32) then (0 : Int32) else 1)), .val (.int (1 : Int32)), .val (.ref b10), .unset, .unset] [(.ref b12)]) st12 ?_
        refine own_st T12 (mkF m_ 87 #[.val (.int pa), .val (.int pb), .val (.int pc), .val (.int pd), .val (.int pe), .val (.int (if (pa &&& (1 : Int32)) = (0 : Int32) then (0 : Int32) else 1)), .val (.int (1 : Int32)), .val (.ref b10), .unset, .unset] [(.ref b10), (.ref b12), (.ref b12)]) (fun t_ k_ => ?_) ?_
        · refine XS.dup X12.here hx rfl (hb hby at_84) rfl rfl ?_
          show Steps p_.tables e_ below (T12.setTop (mkF m_ 85 #[.val (.int pa), .val (.int pb), .val (.int pc), .val (.int pd), .val (.int pe), .val (.int (if (pa &&& (1 : Int32)) = (0 : Int32) then (0 : Int32) else 1)), .val (.int (1 : Int32)), .val (.ref b10), .unset, .unset] [(.ref b12), (.ref b12)])) t_
          refine XS.aload X12.here hx rfl (hb hby at_85) rfl rfl ?_
          show Steps p_.tables e_ below (T12.setTop (mkF m_ 87 #[.val (.int pa), .val (.int pb), .val (.int pc), .val (.int pd), .val (.int pe), .val (.int (if (pa &&& (1 : Int32)) = (0 : Int32) then (0 : Int32) else 1)), .val (.int (1 : Int32)), .val (.ref b10), .unset, .unset] [(.ref b10), (.ref b12), (.ref b12)])) t_
          exact k_
        refine own_callC X12 hx hZ rfl hown (hw _ (List.mem_of_getElem? (i := 4) rfl)) (hw _ (List.mem_of_getElem? (i := 5) rfl)) (hw _ (List.mem_of_getElem? (i := 3) rfl)) (hw _ (List.mem_of_getElem? (i := 6) rfl)) (by decide) b12 [(.ref b10)] [(.ref b12)] (rm1_1 l Z a0 hw b12 b10 k10 cs ((pc &&& (255 : Int32)).toUInt32.toUInt16.toUInt32.toInt32) h12 n0 Z0 O S_CS hcs E_b12 F_value_b12 F_coder_b12 g_b12 A_b10 ne_b10_b12 (own_c255 pc)) 1 (by decide) (by decide) e12 (by rw [hml]; rfl) (lenOf own_pd5 rfl) rfl (Nat.le_of_eq rfl) (hb hby at_87) (by decide) (by decide) ?_
        intro v13 T13 L13 X13 q13
        obtain ⟨rfl, N13q, K13⟩ := q13
        have N13 := Fr.app N11 N13q
        replace O := O.keep K13 (allS g_b12 all0)
        replace A_b10 := A_b10.keep K13 (ninS ne_b10_b12 nin0)
        -- F_coder_b12 is dropped: written by the callee
        -- F_value_b12 is dropped: written by the callee
        replace E_b12 := E_b12.keep K13
        replace Z0 : n0 ≤ T13.heap.size := Nat.le_trans Z0 K13.1
        show own_Out p_ e_ below _ _ _ _ T13 (mkF m_ 90 #[.val (.int pa), .val (.int pb), .val (.int pc), .val (.int pd), .val (.int pe), .val (.int (if (pa &&& (1 : Int32)) = (0 : Int32) then (0 : Int32) else 1)), .val (.int (1 : Int32)), .val (.ref b10), .unset, .unset] [(.ref b12)])
        refine own_st T13 (mkF m_ 92 #[.val (.int pa), .val (.int pb), .val (.int pc), .val (.int pd), .val (.int pe), .val (.int (if (pa &&& (1 : Int32)) = (0 : Int32) then (0 : Int32) else 1)), .val (.int (1 : Int32)), .val (.ref b10), .val (.ref b12), .unset] []) (fun t_ k_ => ?_) ?_
        · refine XS.astore X13.here hx rfl (hb hby at_90) rfl rfl (l' := #[.val (.int pa), .val (.int pb), .val (.int pc), .val (.int pd), .val (.int pe), .val (.int (if (pa &&& (1 : Int32)) = (0 : Int32) then (0 : Int32) else 1)), .val (.int (1 : Int32)), .val (.ref b10), .val (.ref b12), .unset]) rfl ?_
          show Steps p_.tables e_ below (T13.setTop (mkF m_ 92 #[.val (.int pa), .val (.int pb), .val (.int pc), .val (.int pd), .val (.int pe), .val (.int (if (pa &&& (1 : Int32)) = (0 : Int32) then (0 : Int32) else 1)), .val (.int (1 : Int32)), .val (.ref b10), .val (.ref b12), .unset] [])) t_
          exact k_
        obtain ⟨T14, h14, X14, e14, E14, A14, D14, -, st14⟩ := newO X13 hx hZ hown (hw _ (List.mem_of_getElem? (i := 30) rfl)) (hw _ (List.mem_of_getElem? (i := 31) rfl)) (hw _ (List.mem_of_getElem? (i := 32) rfl)) rfl (g := (mkF m_ 92 #[.val (.int pa), .val (.int pb), .val (.int pc), .val (.int pd), .val (.int pe), .val (.int (if (pa &&& (1 : Int32)) = (0 : Int32) then (0 : Int32) else 1)), .val (.int (1 : Int32)), .val (.ref b10), .val (.ref b12), .unset] [])) rfl (hb hby at_92) (by decide) (by decide)
        obtain ⟨b14, g14⟩ : ∃ z, z = T13.heap.size := ⟨_, rfl⟩
        rw [← g14] at A14 D14 st14
        have g_b14 : n0 ≤ b14 := g14 ▸ Z0
        have ne_b10_b14 : b10 ≠ b14 := Nat.ne_of_lt (Nat.lt_of_lt_of_le A_b10.lt (Nat.le_of_eq g14.symm))
        have ne_b12_b14 : b12 ≠ b14 := Nat.ne_of_lt (Nat.lt_of_lt_of_le E_b12.lt (Nat.le_of_eq g14.symm))
        replace O := O.ext E14
        replace A_b10 := A_b10.ext E14
        replace E_b12 := E_b12.ext E14
        replace Z0 : n0 ≤ h14.size := Nat.le_trans Z0 E14.1
        have F_values_b14 : Fld Z h14 b14 "com/example/mustr/mustr/rules/FieldValues" "values" "Ljava/util/Map;" .null := D14 (Or.inr (hw _ (List.mem_of_getElem? (i := 43) rfl))) (ty := (.object "java/util/Map")) (by decide)
        have F_unreadable_b14 : Fld Z h14 b14 "com/example/mustr/mustr/rules/FieldValues" "unreadable" "Ljava/lang/String;" .null := D14 (Or.inr (hw _ (List.mem_of_getElem? (i := 45) rfl))) (ty := (.object "java/lang/String")) (by decide)
        have E_b14 := A14
        refine own_st T14 (mkF m_ 95 #[.val (.int pa), .val (.int pb), .val (.int pc), .val (.int pd), .val (.int pe), .val (.int (if (pa &&& (1 : Int32)) = (0 : Int32) then (0 : Int32) else 1)), .val (.int (1 : Int32)), .val (.ref b10), .val (.ref b12), .unset] [(.ref b14)]) st14 ?_
        refine own_st T14 (mkF m_ 99 #[.val (.int pa), .val (.int pb), .val (.int pc), .val (.int pd), .val (.int pe), .val (.int (if (pa &&& (1 : Int32)) = (0 : Int32) then (0 : Int32) else 1)), .val (.int (1 : Int32)), .val (.ref b10), .val (.ref b12), .unset] [(.ref b12), .null, (.ref b14), (.ref b14)]) (fun t_ k_ => ?_) ?_
        · refine XS.dup X14.here hx rfl (hb hby at_95) rfl rfl ?_
          show Steps p_.tables e_ below (T14.setTop (mkF m_ 96 #[.val (.int pa), .val (.int pb), .val (.int pc), .val (.int pd), .val (.int pe), .val (.int (if (pa &&& (1 : Int32)) = (0 : Int32) then (0 : Int32) else 1)), .val (.int (1 : Int32)), .val (.ref b10), .val (.ref b12), .unset] [(.ref b14), (.ref b14)])) t_
          refine XS.aconstNull X14.here hx rfl (hb hby at_96) ?_
          show Steps p_.tables e_ below (T14.setTop (mkF m_ 97 #[.val (.int pa), .val (.int pb), .val (.int pc), .val (.int pd), .val (.int pe), .val (.int (if (pa &&& (1 : Int32)) = (0 : Int32) then (0 : Int32) else 1)), .val (.int (1 : Int32)), .val (.ref b10), .val (.ref b12), .unset] [.null, (.ref b14), (.ref b14)])) t_
          refine XS.aload X14.here hx rfl (hb hby at_97) rfl rfl ?_
          show Steps p_.tables e_ below (T14.setTop (mkF m_ 99 #[.val (.int pa), .val (.int pb), .val (.int pc), .val (.int pd), .val (.int pe), .val (.int (if (pa &&& (1 : Int32)) = (0 : Int32) then (0 : Int32) else 1)), .val (.int (1 : Int32)), .val (.ref b10), .val (.ref b12), .unset] [(.ref b12), .null, (.ref b14), (.ref b14)])) t_
          exact k_
        refine own_callC X14 hx hZ rfl hown (hw _ (List.mem_of_getElem? (i := 33) rfl)) (hw _ (List.mem_of_getElem? (i := 34) rfl)) (hw _ (List.mem_of_getElem? (i := 32) rfl)) (hw _ (List.mem_of_getElem? (i := 35) rfl)) (by decide) b14 [.null, (.ref b12)] [(.ref b14)] (rm7R l Z a0 hw b14 b12 h14 n0 Z0 E_b14 F_values_b14 F_unreadable_b14 g_b14) 1 (by decide) (by decide) e14 (by rw [hml]; rfl) (lenOf own_pd6 rfl) rfl (Nat.le_of_eq rfl) (hb hby at_99) (by decide) (by decide) ?_
        intro v15 T15 L15 X15 q15
        obtain ⟨rfl, N15q, K15, Eq15, Fq15_values, Fq15_unreadable⟩ := q15
        have N15 := Fr.app N13 N15q
        replace O := O.keep K15 (allS g_b14 all0)
        replace A_b10 := A_b10.keep K15 (ninS ne_b10_b14 nin0)
        replace E_b12 := E_b12.keep K15
        -- F_values_b14 is dropped: written by the callee
        -- F_unreadable_b14 is dropped: written by the callee
        replace E_b14 := E_b14.keep K15
        replace Z0 : n0 ≤ T15.heap.size := Nat.le_trans Z0 K15.1
        have F_values_b14 := Fq15_values
        have F_unreadable_b14 := Fq15_unreadable
        show own_Out p_ e_ below _ _ _ _ T15 (mkF m_ 102 #[.val (.int pa), .val (.int pb), .val (.int pc), .val (.int pd), .val (.int pe), .val (.int (if (pa &&& (1 : Int32)) = (0 : Int32) then (0 : Int32) else 1)), .val (.int (1 : Int32)), .val (.ref b10), .val (.ref b12), .unset] [(.ref b14)])
        refine own_st T15 (mkF m_ 106 #[.val (.int pa), .val (.int pb), .val (.int pc), .val (.int pd), .val (.int pe), .val (.int (if (pa &&& (1 : Int32)) = (0 : Int32) then (0 : Int32) else 1)), .val (.int (1 : Int32)), .val (.ref b10), .val (.ref b12), .val (.ref b14)] [(.ref b14)]) (fun t_ k_ => ?_) ?_
        · refine XS.astore X15.here hx rfl (hb hby at_102) rfl rfl (l' := #[.val (.int pa), .val (.int pb), .val (.int pc), .val (.int pd), .val (.int pe), .val (.int (if (pa &&& (1 : Int32)) = (0 : Int32) then (0 : Int32) else 1)), .val (.int (1 : Int32)), .val (.ref b10), .val (.ref b12), .val (.ref b14)]) rfl ?_
          show Steps p_.tables e_ below (T15.setTop (mkF m_ 104 #[.val (.int pa), .val (.int pb), .val (.int pc), .val (.int pd), .val (.int pe), .val (.int (if (pa &&& (1 : Int32)) = (0 : Int32) then (0 : Int32) else 1)), .val (.int (1 : Int32)), .val (.ref b10), .val (.ref b12), .val (.ref b14)] [])) t_
          refine XS.aload X15.here hx rfl (hb hby at_104) rfl rfl ?_
          show Steps p_.tables e_ below (T15.setTop (mkF m_ 106 #[.val (.int pa), .val (.int pb), .val (.int pc), .val (.int pd), .val (.int pe), .val (.int (if (pa &&& (1 : Int32)) = (0 : Int32) then (0 : Int32) else 1)), .val (.int (1 : Int32)), .val (.ref b10), .val (.ref b12), .val (.ref b14)] [(.ref b14)])) t_
          exact k_
        refine own_callV X15 hx hZ (y := (⟨"com/example/mustr/mustr/rules/FieldValues", "isRead", "()Z"⟩ : MethodName)) (z := (⟨"com/example/mustr/mustr/rules/FieldValues", "isRead", "()Z"⟩ : MethodName)) hown (hw _ (List.mem_of_getElem? (i := 46) rfl)) (hw _ (List.mem_of_getElem? (i := 47) rfl)) (notFace_of_selects (args := #[]) (mvT hZ (hw _ (List.mem_of_getElem? (i := 49) rfl)))) (hw _ (List.mem_of_getElem? (i := 49) rfl)) (hw _ (List.mem_of_getElem? (i := 48) rfl)) (hw _ (List.mem_of_getElem? (i := 32) rfl)) (hw _ (List.mem_of_getElem? (i := 50) rfl)) (by decide) b14 [] [] E_b14 (rm9R l Z a0 hw b14 b12 T15.heap n0 Z0 F_unreadable_b14) 0 (by decide) (by decide) rfl (by rw [hml]; rfl) (lenOf own_pd7 rfl) rfl (Nat.le_of_eq rfl) (hb hby at_106) (by decide) (by decide) ?_
        intro v16 T16 L16 X16 q16
        obtain ⟨rfl, N16q, e16⟩ := q16
        have N16 := Fr.app N15 N16q
        show own_Out p_ e_ below _ _ _ _ T16 (mkF m_ 109 #[.val (.int pa), .val (.int pb), .val (.int pc), .val (.int pd), .val (.int pe), .val (.int (if (pa &&& (1 : Int32)) = (0 : Int32) then (0 : Int32) else 1)), .val (.int (1 : Int32)), .val (.ref b10), .val (.ref b12), .val (.ref b14)] [(.int (0 : Int32))])
        refine own_st T16 (mkF m_ 119 #[.val (.int pa), .val (.int pb), .val (.int pc), .val (.int pd), .val (.int pe), .val (.int (if (pa &&& (1 : Int32)) = (0 : Int32) then (0 : Int32) else 1)), .val (.int (1 : Int32)), .val (.ref b10), .val (.ref b12), .val (.ref b14)] [(.int (1 : Int32))]) (fun t_ k_ => ?_) ?_
        · refine XS.iload X16.here hx rfl (hb hby at_109) rfl ?_
          show Steps p_.tables e_ below (T16.setTop (mkF m_ 111 #[.val (.int pa), .val (.int pb), .val (.int pc), .val (.int pd), .val (.int pe), .val (.int (if (pa &&& (1 : Int32)) = (0 : Int32) then (0 : Int32) else 1)), .val (.int (1 : Int32)), .val (.ref b10), .val (.ref b12), .val (.ref b14)] [(.int (if (pa &&& (1 : Int32)) = (0 : Int32) then (0 : Int32) else 1)), (.int (0 : Int32))])) t_
          refine XS.icmpNo X16.here hx rfl (hb hby at_111) rfl (teq (by rw [if_pos hc74] : (0 : Int32) = (if (pa &&& (1 : Int32)) = (0 : Int32) then (0 : Int32) else 1))).2 ?_
          show Steps p_.tables e_ below (T16.setTop (mkF m_ 114 #[.val (.int pa), .val (.int pb), .val (.int pc), .val (.int pd), .val (.int pe), .val (.int (if (pa &&& (1 : Int32)) = (0 : Int32) then (0 : Int32) else 1)), .val (.int (1 : Int32)), .val (.ref b10), .val (.ref b12), .val (.ref b14)] [])) t_
          refine XS.iconst X16.here hx rfl (hb hby at_114) ?_
          show Steps p_.tables e_ below (T16.setTop (mkF m_ 115 #[.val (.int pa), .val (.int pb), .val (.int pc), .val (.int pd), .val (.int pe), .val (.int (if (pa &&& (1 : Int32)) = (0 : Int32) then (0 : Int32) else 1)), .val (.int (1 : Int32)), .val (.ref b10), .val (.ref b12), .val (.ref b14)] [(.int (1 : Int32))])) t_
          refine XS.goto X16.here hx rfl (pc0 := 115) (pc' := 119) rfl (hb hby at_115) (by decide) (by decide) ?_
          show Steps p_.tables e_ below (T16.setTop (mkF m_ 119 #[.val (.int pa), .val (.int pb), .val (.int pc), .val (.int pd), .val (.int pe), .val (.int (if (pa &&& (1 : Int32)) = (0 : Int32) then (0 : Int32) else 1)), .val (.int (1 : Int32)), .val (.ref b10), .val (.ref b12), .val (.ref b14)] [(.int (1 : Int32))])) t_
          exact k_
        refine own_retN X16 hx hlk (t := .boolean) hret (by simp) (hb hby at_119) (by decide) (by decide) ?_
        exact ⟨rfl, N16⟩
      · refine own_st T11 (mkF m_ 77 #[.val (.int pa), .val (.int pb), .val (.int pc), .val (.int pd), .val (.int pe), .val (.int (if (pa &&& (1 : Int32)) = (0 : Int32) then (0 : Int32) else 1)), .val (.int (1 : Int32)), .val (.ref b10), .unset, .unset] []) (fun t_ k_ => XS.ifNo X11.here hx rfl (hb hby at_74) rfl ((if0 _ _).trans (feq (own_nf hc74)).1) k_) ?_
        refine own_st T11 (mkF m_ 92 #[.val (.int pa), .val (.int pb), .val (.int pc), .val (.int pd), .val (.int pe), .val (.int (if (pa &&& (1 : Int32)) = (0 : Int32) then (0 : Int32) else 1)), .val (.int (1 : Int32)), .val (.ref b10), .val .null, .unset] []) (fun t_ k_ => ?_) ?_
        · refine XS.aconstNull X11.here hx rfl (hb hby at_77) ?_
          show Steps p_.tables e_ below (T11.setTop (mkF m_ 78 #[.val (.int pa), .val (.int pb), .val (.int pc), .val (.int pd), .val (.int pe), .val (.int (if (pa &&& (1 : Int32)) = (0 : Int32) then (0 : Int32) else 1)), .val (.int (1 : Int32)), .val (.ref b10), .unset, .unset] [.null])) t_
          refine XS.goto X11.here hx rfl (pc0 := 78) (pc' := 90) rfl (hb hby at_78) (by decide) (by decide) ?_
          show Steps p_.tables e_ below (T11.setTop (mkF m_ 90 #[.val (.int pa), .val (.int pb), .val (.int pc), .val (.int pd), .val (.int pe), .val (.int (if (pa &&& (1 : Int32)) = (0 : Int32) then (0 : Int32) else 1)), .val (.int (1 : Int32)), .val (.ref b10), .unset, .unset] [.null])) t_
          refine XS.astore X11.here hx rfl (hb hby at_90) rfl rfl (l' := #[.val (.int pa), .val (.int pb), .val (.int pc), .val (.int pd), .val (.int pe), .val (.int (if (pa &&& (1 : Int32)) = (0 : Int32) then (0 : Int32) else 1)), .val (.int (1 : Int32)), .val (.ref b10), .val .null, .unset]) rfl ?_
          show Steps p_.tables e_ below (T11.setTop (mkF m_ 92 #[.val (.int pa), .val (.int pb), .val (.int pc), .val (.int pd), .val (.int pe), .val (.int (if (pa &&& (1 : Int32)) = (0 : Int32) then (0 : Int32) else 1)), .val (.int (1 : Int32)), .val (.ref b10), .val .null, .unset] [])) t_
          exact k_
        obtain ⟨T17, h17, X17, e17, E17, A17, D17, -, st17⟩ := newO X11 hx hZ hown (hw _ (List.mem_of_getElem? (i := 30) rfl)) (hw _ (List.mem_of_getElem? (i := 31) rfl)) (hw _ (List.mem_of_getElem? (i := 32) rfl)) e11 (g := (mkF m_ 92 #[.val (.int pa), .val (.int pb), .val (.int pc), .val (.int pd), .val (.int pe), .val (.int (if (pa &&& (1 : Int32)) = (0 : Int32) then (0 : Int32) else 1)), .val (.int (1 : Int32)), .val (.ref b10), .val .null, .unset] [])) rfl (hb hby at_92) (by decide) (by decide)
        obtain ⟨b17, g17⟩ : ∃ z, z = h11.size := ⟨_, rfl⟩
        rw [← g17] at A17 D17 st17
        have g_b17 : n0 ≤ b17 := g17 ▸ Z0
        have ne_b10_b17 : b10 ≠ b17 := Nat.ne_of_lt (Nat.lt_of_lt_of_le A_b10.lt (Nat.le_of_eq g17.symm))
        replace O := O.ext E17
        replace A_b10 := A_b10.ext E17
        replace Z0 : n0 ≤ h17.size := Nat.le_trans Z0 E17.1
        have F_values_b17 : Fld Z h17 b17 "com/example/mustr/mustr/rules/FieldValues" "values" "Ljava/util/Map;" .null := D17 (Or.inr (hw _ (List.mem_of_getElem? (i := 43) rfl))) (ty := (.object "java/util/Map")) (by decide)
        have F_unreadable_b17 : Fld Z h17 b17 "com/example/mustr/mustr/rules/FieldValues" "unreadable" "Ljava/lang/String;" .null := D17 (Or.inr (hw _ (List.mem_of_getElem? (i := 45) rfl))) (ty := (.object "java/lang/String")) (by decide)
        have E_b17 := A17
        refine own_st T17 (mkF m_ 95 #[.val (.int pa), .val (.int pb), .val (.int pc), .val (.int pd), .val (.int pe), .val (.int (if (pa &&& (1 : Int32)) = (0 : Int32) then (0 : Int32) else 1)), .val (.int (1 : Int32)), .val (.ref b10), .val .null, .unset] [(.ref b17)]) st17 ?_
        refine own_st T17 (mkF m_ 99 #[.val (.int pa), .val (.int pb), .val (.int pc), .val (.int pd), .val (.int pe), .val (.int (if (pa &&& (1 : Int32)) = (0 : Int32) then (0 : Int32) else 1)), .val (.int (1 : Int32)), .val (.ref b10), .val .null, .unset] [.null, .null, (.ref b17), (.ref b17)]) (fun t_ k_ => ?_) ?_
        · refine XS.dup X17.here hx rfl (hb hby at_95) rfl rfl ?_
          show Steps p_.tables e_ below (T17.setTop (mkF m_ 96 #[.val (.int pa), .val (.int pb), .val (.int pc), .val (.int pd), .val (.int pe), .val (.int (if (pa &&& (1 : Int32)) = (0 : Int32) then (0 : Int32) else 1)), .val (.int (1 : Int32)), .val (.ref b10), .val .null, .unset] [(.ref b17), (.ref b17)])) t_
          refine XS.aconstNull X17.here hx rfl (hb hby at_96) ?_
          show Steps p_.tables e_ below (T17.setTop (mkF m_ 97 #[.val (.int pa), .val (.int pb), .val (.int pc), .val (.int pd), .val (.int pe), .val (.int (if (pa &&& (1 : Int32)) = (0 : Int32) then (0 : Int32) else 1)), .val (.int (1 : Int32)), .val (.ref b10), .val .null, .unset] [.null, (.ref b17), (.ref b17)])) t_
          refine XS.aload X17.here hx rfl (hb hby at_97) rfl rfl ?_
          show Steps p_.tables e_ below (T17.setTop (mkF m_ 99 #[.val (.int pa), .val (.int pb), .val (.int pc), .val (.int pd), .val (.int pe), .val (.int (if (pa &&& (1 : Int32)) = (0 : Int32) then (0 : Int32) else 1)), .val (.int (1 : Int32)), .val (.ref b10), .val .null, .unset] [.null, .null, (.ref b17), (.ref b17)])) t_
          exact k_
        refine own_callC X17 hx hZ rfl hown (hw _ (List.mem_of_getElem? (i := 33) rfl)) (hw _ (List.mem_of_getElem? (i := 34) rfl)) (hw _ (List.mem_of_getElem? (i := 32) rfl)) (hw _ (List.mem_of_getElem? (i := 35) rfl)) (by decide) b17 [.null, .null] [(.ref b17)] (rm7N l Z a0 hw b17 h17 n0 Z0 E_b17 F_values_b17 F_unreadable_b17 g_b17) 1 (by decide) (by decide) e17 (by rw [hml]; rfl) (lenOf own_pd6 rfl) rfl (Nat.le_of_eq rfl) (hb hby at_99) (by decide) (by decide) ?_
        intro v18 T18 L18 X18 q18
        obtain ⟨rfl, N18q, K18, Eq18, Fq18_values, Fq18_unreadable⟩ := q18
        have N18 := Fr.app N11 N18q
        replace O := O.keep K18 (allS g_b17 all0)
        replace A_b10 := A_b10.keep K18 (ninS ne_b10_b17 nin0)
        -- F_values_b17 is dropped: written by the callee
        -- F_unreadable_b17 is dropped: written by the callee
        replace E_b17 := E_b17.keep K18
        replace Z0 : n0 ≤ T18.heap.size := Nat.le_trans Z0 K18.1
        have F_values_b17 := Fq18_values
        have F_unreadable_b17 := Fq18_unreadable
        show own_Out p_ e_ below _ _ _ _ T18 (mkF m_ 102 #[.val (.int pa), .val (.int pb), .val (.int pc), .val (.int pd), .val (.int pe), .val (.int (if (pa &&& (1 : Int32)) = (0 : Int32) then (0 : Int32) else 1)), .val (.int (1 : Int32)), .val (.ref b10), .val .null, .unset] [(.ref b17)])
        refine own_st T18 (mkF m_ 106 #[.val (.int pa), .val (.int pb), .val (.int pc), .val (.int pd), .val (.int pe), .val (.int (if (pa &&& (1 : Int32)) = (0 : Int32) then (0 : Int32) else 1)), .val (.int (1 : Int32)), .val (.ref b10), .val .null, .val (.ref b17)] [(.ref b17)]) (fun t_ k_ => ?_) ?_
        · refine XS.astore X18.here hx rfl (hb hby at_102) rfl rfl (l' := #[.val (.int pa), .val (.int pb), .val (.int pc), .val (.int pd), .val (.int pe), .val (.int (if (pa &&& (1 : Int32)) = (0 : Int32) then (0 : Int32) else 1)), .val (.int (1 : Int32)), .val (.ref b10), .val .null, .val (.ref b17)]) rfl ?_
          show Steps p_.tables e_ below (T18.setTop (mkF m_ 104 #[.val (.int pa), .val (.int pb), .val (.int pc), .val (.int pd), .val (.int pe), .val (.int (if (pa &&& (1 : Int32)) = (0 : Int32) then (0 : Int32) else 1)), .val (.int (1 : Int32)), .val (.ref b10), .val .null, .val (.ref b17)] [])) t_
          refine XS.aload X18.here hx rfl (hb hby at_104) rfl rfl ?_
          show Steps p_.tables e_ below (T18.setTop (mkF m_ 106 #[.val (.int pa), .val (.int pb), .val (.int pc), .val (.int pd), .val (.int pe), .val (.int (if (pa &&& (1 : Int32)) = (0 : Int32) then (0 : Int32) else 1)), .val (.int (1 : Int32)), .val (.ref b10), .val .null, .val (.ref b17)] [(.ref b17)])) t_
          exact k_
        refine own_callV X18 hx hZ (y := (⟨"com/example/mustr/mustr/rules/FieldValues", "isRead", "()Z"⟩ : MethodName)) (z := (⟨"com/example/mustr/mustr/rules/FieldValues", "isRead", "()Z"⟩ : MethodName)) hown (hw _ (List.mem_of_getElem? (i := 46) rfl)) (hw _ (List.mem_of_getElem? (i := 47) rfl)) (notFace_of_selects (args := #[]) (mvT hZ (hw _ (List.mem_of_getElem? (i := 49) rfl)))) (hw _ (List.mem_of_getElem? (i := 49) rfl)) (hw _ (List.mem_of_getElem? (i := 48) rfl)) (hw _ (List.mem_of_getElem? (i := 32) rfl)) (hw _ (List.mem_of_getElem? (i := 50) rfl)) (by decide) b17 [] [] E_b17 (rm9N l Z a0 hw b17 T18.heap n0 Z0 F_unreadable_b17) 0 (by decide) (by decide) rfl (by rw [hml]; rfl) (lenOf own_pd7 rfl) rfl (Nat.le_of_eq rfl) (hb hby at_106) (by decide) (by decide) ?_
        intro v19 T19 L19 X19 q19
        obtain ⟨rfl, N19q, e19⟩ := q19
        have N19 := Fr.app N18 N19q
        show own_Out p_ e_ below _ _ _ _ T19 (mkF m_ 109 #[.val (.int pa), .val (.int pb), .val (.int pc), .val (.int pd), .val (.int pe), .val (.int (if (pa &&& (1 : Int32)) = (0 : Int32) then (0 : Int32) else 1)), .val (.int (1 : Int32)), .val (.ref b10), .val .null, .val (.ref b17)] [(.int (1 : Int32))])
        refine own_st T19 (mkF m_ 119 #[.val (.int pa), .val (.int pb), .val (.int pc), .val (.int pd), .val (.int pe), .val (.int (if (pa &&& (1 : Int32)) = (0 : Int32) then (0 : Int32) else 1)), .val (.int (1 : Int32)), .val (.ref b10), .val .null, .val (.ref b17)] [(.int (1 : Int32))]) (fun t_ k_ => ?_) ?_
        · refine XS.iload X19.here hx rfl (hb hby at_109) rfl ?_
          show Steps p_.tables e_ below (T19.setTop (mkF m_ 111 #[.val (.int pa), .val (.int pb), .val (.int pc), .val (.int pd), .val (.int pe), .val (.int (if (pa &&& (1 : Int32)) = (0 : Int32) then (0 : Int32) else 1)), .val (.int (1 : Int32)), .val (.ref b10), .val .null, .val (.ref b17)] [(.int (if (pa &&& (1 : Int32)) = (0 : Int32) then (0 : Int32) else 1)), (.int (1 : Int32))])) t_
          refine XS.icmpNo X19.here hx rfl (hb hby at_111) rfl (teq (by rw [if_neg hc74] : (1 : Int32) = (if (pa &&& (1 : Int32)) = (0 : Int32) then (0 : Int32) else 1))).2 ?_
          show Steps p_.tables e_ below (T19.setTop (mkF m_ 114 #[.val (.int pa), .val (.int pb), .val (.int pc), .val (.int pd), .val (.int pe), .val (.int (if (pa &&& (1 : Int32)) = (0 : Int32) then (0 : Int32) else 1)), .val (.int (1 : Int32)), .val (.ref b10), .val .null, .val (.ref b17)] [])) t_
          refine XS.iconst X19.here hx rfl (hb hby at_114) ?_
          show Steps p_.tables e_ below (T19.setTop (mkF m_ 115 #[.val (.int pa), .val (.int pb), .val (.int pc), .val (.int pd), .val (.int pe), .val (.int (if (pa &&& (1 : Int32)) = (0 : Int32) then (0 : Int32) else 1)), .val (.int (1 : Int32)), .val (.ref b10), .val .null, .val (.ref b17)] [(.int (1 : Int32))])) t_
          refine XS.goto X19.here hx rfl (pc0 := 115) (pc' := 119) rfl (hb hby at_115) (by decide) (by decide) ?_
          show Steps p_.tables e_ below (T19.setTop (mkF m_ 119 #[.val (.int pa), .val (.int pb), .val (.int pc), .val (.int pd), .val (.int pe), .val (.int (if (pa &&& (1 : Int32)) = (0 : Int32) then (0 : Int32) else 1)), .val (.int (1 : Int32)), .val (.ref b10), .val .null, .val (.ref b17)] [(.int (1 : Int32))])) t_
          exact k_
        refine own_retN X19 hx hlk (t := .boolean) hret (by simp) (hb hby at_119) (by decide) (by decide) ?_
        exact ⟨rfl, N19⟩
    · skip
      by_cases hn2 : pb &&& (3 : Int32) = 2
      · refine own_OutW.of ?_
        refine own_st s₁ (mkF m_ 20 #[.val (.int pa), .val (.int pb), .val (.int pc), .val (.int pd), .val (.int pe), .val (.int (if (pa &&& (1 : Int32)) = (0 : Int32) then (0 : Int32) else 1)), .val (.int (2 : Int32)), .unset, .unset, .unset] [(.int (2 : Int32))]) (fun t_ k_ => ?_) ?_
        · refine XS.iloadN X0.here hx rfl (hb hby at_0) rfl ?_
          show Steps p_.tables e_ below (s₁.setTop (mkF m_ 1 #[.val (.int pa), .val (.int pb), .val (.int pc), .val (.int pd), .val (.int pe), .unset, .unset, .unset, .unset, .unset] [(.int pa)])) t_
          refine XS.iconst X0.here hx rfl (hb hby at_1) ?_
          show Steps p_.tables e_ below (s₁.setTop (mkF m_ 2 #[.val (.int pa), .val (.int pb), .val (.int pc), .val (.int pd), .val (.int pe), .unset, .unset, .unset, .unset, .unset] [(.int (1 : Int32)), (.int pa)])) t_
          refine XS.iand X0.here hx rfl (hb hby at_2) rfl ?_
          show Steps p_.tables e_ below (s₁.setTop (mkF m_ 3 #[.val (.int pa), .val (.int pb), .val (.int pc), .val (.int pd), .val (.int pe), .unset, .unset, .unset, .unset, .unset] [(.int (pa &&& (1 : Int32)))])) t_
          have jn3 : ∀ t_, Steps p_.tables e_ below (s₁.setTop (mkF m_ 11 #[.val (.int pa), .val (.int pb), .val (.int pc), .val (.int pd), .val (.int pe), .unset, .unset, .unset, .unset, .unset] [(.int (if (pa &&& (1 : Int32)) = (0 : Int32) then (0 : Int32) else 1))])) t_ → Steps p_.tables e_ below (s₁.setTop (mkF m_ 3 #[.val (.int pa), .val (.int pb), .val (.int pc), .val (.int pd), .val (.int pe), .unset, .unset, .unset, .unset, .unset] [(.int (pa &&& (1 : Int32)))])) t_ := by
            intro t_ k_
            by_cases hc3 : (pa &&& (1 : Int32)) = (0 : Int32)
            · refine XS.ifYes X0.here hx rfl (pc0 := 3) (pc' := 10) rfl (hb hby at_3) rfl ((if0 _ _).trans (teq hc3).1) (by decide) (by decide) ?_
              show Steps p_.tables e_ below (s₁.setTop (mkF m_ 10 #[.val (.int pa), .val (.int pb), .val (.int pc), .val (.int pd), .val (.int pe), .unset, .unset, .unset, .unset, .unset] [])) t_
              refine XS.iconst X0.here hx rfl (hb hby at_10) ?_
              show Steps p_.tables e_ below (s₁.setTop (mkF m_ 11 #[.val (.int pa), .val (.int pb), .val (.int pc), .val (.int pd), .val (.int pe), .unset, .unset, .unset, .unset, .unset] [(.int (0 : Int32))])) t_
              simp only [if_pos hc3] at k_ ⊢
              exact k_
            · refine XS.ifNo X0.here hx rfl (hb hby at_3) rfl ((if0 _ _).trans (feq hc3).1) ?_
              show Steps p_.tables e_ below (s₁.setTop (mkF m_ 6 #[.val (.int pa), .val (.int pb), .val (.int pc), .val (.int pd), .val (.int pe), .unset, .unset, .unset, .unset, .unset] [])) t_
              refine XS.iconst X0.here hx rfl (hb hby at_6) ?_
              show Steps p_.tables e_ below (s₁.setTop (mkF m_ 7 #[.val (.int pa), .val (.int pb), .val (.int pc), .val (.int pd), .val (.int pe), .unset, .unset, .unset, .unset, .unset] [(.int (1 : Int32))])) t_
              refine XS.goto X0.here hx rfl (pc0 := 7) (pc' := 11) rfl (hb hby at_7) (by decide) (by decide) ?_
              show Steps p_.tables e_ below (s₁.setTop (mkF m_ 11 #[.val (.int pa), .val (.int pb), .val (.int pc), .val (.int pd), .val (.int pe), .unset, .unset, .unset, .unset, .unset] [(.int (1 : Int32))])) t_
              simp only [if_neg hc3] at k_ ⊢
              exact k_
          refine jn3 _ ?_
          show Steps p_.tables e_ below (s₁.setTop (mkF m_ 11 #[.val (.int pa), .val (.int pb), .val (.int pc), .val (.int pd), .val (.int pe), .unset, .unset, .unset, .unset, .unset] [(.int (if (pa &&& (1 : Int32)) = (0 : Int32) then (0 : Int32) else 1))])) t_
          refine XS.istore X0.here hx rfl (hb hby at_11) rfl (l' := #[.val (.int pa), .val (.int pb), .val (.int pc), .val (.int pd), .val (.int pe), .val (.int (if (pa &&& (1 : Int32)) = (0 : Int32) then (0 : Int32) else 1)), .unset, .unset, .unset, .unset]) rfl ?_
          show Steps p_.tables e_ below (s₁.setTop (mkF m_ 13 #[.val (.int pa), .val (.int pb), .val (.int pc), .val (.int pd), .val (.int pe), .val (.int (if (pa &&& (1 : Int32)) = (0 : Int32) then (0 : Int32) else 1)), .unset, .unset, .unset, .unset] [])) t_
          refine XS.iloadN X0.here hx rfl (hb hby at_13) rfl ?_
          show Steps p_.tables e_ below (s₁.setTop (mkF m_ 14 #[.val (.int pa), .val (.int pb), .val (.int pc), .val (.int pd), .val (.int pe), .val (.int (if (pa &&& (1 : Int32)) = (0 : Int32) then (0 : Int32) else 1)), .unset, .unset, .unset, .unset] [(.int pb)])) t_
          refine XS.iconst X0.here hx rfl (hb hby at_14) ?_
          show Steps p_.tables e_ below (s₁.setTop (mkF m_ 15 #[.val (.int pa), .val (.int pb), .val (.int pc), .val (.int pd), .val (.int pe), .val (.int (if (pa &&& (1 : Int32)) = (0 : Int32) then (0 : Int32) else 1)), .unset, .unset, .unset, .unset] [(.int (3 : Int32)), (.int pb)])) t_
          refine XS.iand X0.here hx rfl (hb hby at_15) rfl ?_
          rw [hn2]
          show Steps p_.tables e_ below (s₁.setTop (mkF m_ 16 #[.val (.int pa), .val (.int pb), .val (.int pc), .val (.int pd), .val (.int pe), .val (.int (if (pa &&& (1 : Int32)) = (0 : Int32) then (0 : Int32) else 1)), .unset, .unset, .unset, .unset] [(.int (2 : Int32))])) t_
          refine XS.istore X0.here hx rfl (hb hby at_16) rfl (l' := #[.val (.int pa), .val (.int pb), .val (.int pc), .val (.int pd), .val (.int pe), .val (.int (if (pa &&& (1 : Int32)) = (0 : Int32) then (0 : Int32) else 1)), .val (.int (2 : Int32)), .unset, .unset, .unset]) rfl ?_
          show Steps p_.tables e_ below (s₁.setTop (mkF m_ 18 #[.val (.int pa), .val (.int pb), .val (.int pc), .val (.int pd), .val (.int pe), .val (.int (if (pa &&& (1 : Int32)) = (0 : Int32) then (0 : Int32) else 1)), .val (.int (2 : Int32)), .unset, .unset, .unset] [])) t_
          refine XS.iload X0.here hx rfl (hb hby at_18) rfl ?_
          show Steps p_.tables e_ below (s₁.setTop (mkF m_ 20 #[.val (.int pa), .val (.int pb), .val (.int pc), .val (.int pd), .val (.int pe), .val (.int (if (pa &&& (1 : Int32)) = (0 : Int32) then (0 : Int32) else 1)), .val (.int (2 : Int32)), .unset, .unset, .unset] [(.int (2 : Int32))])) t_
          exact k_
        obtain ⟨T20, h20, k20, X20, e20, E20, A20, st20⟩ := newP X0 hx hZ (hw _ (List.mem_of_getElem? (i := 0) rfl)) e0 (g := (mkF m_ 20 #[.val (.int pa), .val (.int pb), .val (.int pc), .val (.int pd), .val (.int pe), .val (.int (if (pa &&& (1 : Int32)) = (0 : Int32) then (0 : Int32) else 1)), .val (.int (2 : Int32)), .unset, .unset, .unset] [(.int (2 : Int32))])) rfl (hb hby at_20) rfl (by decide) (cap := 2) (by decide) (by decide) (by decide) (by decide)
        obtain ⟨b20, g20⟩ : ∃ z, z = h0.size := ⟨_, rfl⟩
        rw [← g20] at A20 st20
        have g_b20 : n0 ≤ b20 := g20 ▸ Z0
        replace O := O.ext E20
        replace Z0 : n0 ≤ h20.size := Nat.le_trans Z0 E20.1
        have A_b20 : own_A Z h20 b20 k20 .char 2 (fun x_ => .int (([(0 : Int32), (0 : Int32)] : List Int32).getD x_ 0)) := own_A.newLI A20 (by decide) 2 (by decide) rfl
        refine own_st T20 (mkF m_ 22 #[.val (.int pa), .val (.int pb), .val (.int pc), .val (.int pd), .val (.int pe), .val (.int (if (pa &&& (1 : Int32)) = (0 : Int32) then (0 : Int32) else 1)), .val (.int (2 : Int32)), .unset, .unset, .unset] [(.ref b20)]) st20 ?_
        refine own_st T20 (mkF m_ 38 #[.val (.int pa), .val (.int pb), .val (.int pc), .val (.int pd), .val (.int pe), .val (.int (if (pa &&& (1 : Int32)) = (0 : Int32) then (0 : Int32) else 1)), .val (.int (2 : Int32)), .val (.ref b20), .unset, .unset] [(.int ((pc &&& (255 : Int32)).toUInt32.toUInt16.toUInt32.toInt32)), (.int (0 : Int32)), (.ref b20)]) (fun t_ k_ => ?_) ?_
        · refine XS.astore X20.here hx rfl (hb hby at_22) rfl rfl (l' := #[.val (.int pa), .val (.int pb), .val (.int pc), .val (.int pd), .val (.int pe), .val (.int (if (pa &&& (1 : Int32)) = (0 : Int32) then (0 : Int32) else 1)), .val (.int (2 : Int32)), .val (.ref b20), .unset, .unset]) rfl ?_
          show Steps p_.tables e_ below (T20.setTop (mkF m_ 24 #[.val (.int pa), .val (.int pb), .val (.int pc), .val (.int pd), .val (.int pe), .val (.int (if (pa &&& (1 : Int32)) = (0 : Int32) then (0 : Int32) else 1)), .val (.int (2 : Int32)), .val (.ref b20), .unset, .unset] [])) t_
          refine XS.iload X20.here hx rfl (hb hby at_24) rfl ?_
          show Steps p_.tables e_ below (T20.setTop (mkF m_ 26 #[.val (.int pa), .val (.int pb), .val (.int pc), .val (.int pd), .val (.int pe), .val (.int (if (pa &&& (1 : Int32)) = (0 : Int32) then (0 : Int32) else 1)), .val (.int (2 : Int32)), .val (.ref b20), .unset, .unset] [(.int (2 : Int32))])) t_
          refine XS.ifNo X20.here hx rfl (hb hby at_26) rfl ((if0 _ _).trans (tlt (by decide : (0 : Int32) < (2 : Int32))).2.2.2) ?_
          show Steps p_.tables e_ below (T20.setTop (mkF m_ 29 #[.val (.int pa), .val (.int pb), .val (.int pc), .val (.int pd), .val (.int pe), .val (.int (if (pa &&& (1 : Int32)) = (0 : Int32) then (0 : Int32) else 1)), .val (.int (2 : Int32)), .val (.ref b20), .unset, .unset] [])) t_
          refine XS.aload X20.here hx rfl (hb hby at_29) rfl rfl ?_
          show Steps p_.tables e_ below (T20.setTop (mkF m_ 31 #[.val (.int pa), .val (.int pb), .val (.int pc), .val (.int pd), .val (.int pe), .val (.int (if (pa &&& (1 : Int32)) = (0 : Int32) then (0 : Int32) else 1)), .val (.int (2 : Int32)), .val (.ref b20), .unset, .unset] [(.ref b20)])) t_
          refine XS.iconst X20.here hx rfl (hb hby at_31) ?_
          show Steps p_.tables e_ below (T20.setTop (mkF m_ 32 #[.val (.int pa), .val (.int pb), .val (.int pc), .val (.int pd), .val (.int pe), .val (.int (if (pa &&& (1 : Int32)) = (0 : Int32) then (0 : Int32) else 1)), .val (.int (2 : Int32)), .val (.ref b20), .unset, .unset] [(.int (0 : Int32)), (.ref b20)])) t_
          refine XS.iloadN X20.here hx rfl (hb hby at_32) rfl ?_
          show Steps p_.tables e_ below (T20.setTop (mkF m_ 33 #[.val (.int pa), .val (.int pb), .val (.int pc), .val (.int pd), .val (.int pe), .val (.int (if (pa &&& (1 : Int32)) = (0 : Int32) then (0 : Int32) else 1)), .val (.int (2 : Int32)), .val (.ref b20), .unset, .unset] [(.int pc), (.int (0 : Int32)), (.ref b20)])) t_
          refine XS.sipush X20.here hx rfl (hb hby at_33) ?_
          show Steps p_.tables e_ below (T20.setTop (mkF m_ 36 #[.val (.int pa), .val (.int pb), .val (.int pc), .val (.int pd), .val (.int pe), .val (.int (if (pa &&& (1 : Int32)) = (0 : Int32) then (0 : Int32) else 1)), .val (.int (2 : Int32)), .val (.ref b20), .unset, .unset] [(.int (255 : Int32)), (.int pc), (.int (0 : Int32)), (.ref b20)])) t_
          refine XS.iand X20.here hx rfl (hb hby at_36) rfl ?_
          show Steps p_.tables e_ below (T20.setTop (mkF m_ 37 #[.val (.int pa), .val (.int pb), .val (.int pc), .val (.int pd), .val (.int pe), .val (.int (if (pa &&& (1 : Int32)) = (0 : Int32) then (0 : Int32) else 1)), .val (.int (2 : Int32)), .val (.ref b20), .unset, .unset] [(.int (pc &&& (255 : Int32))), (.int (0 : Int32)), (.ref b20)])) t_
          refine XS.i2c X20.here hx rfl (hb hby at_37) rfl ?_
          show Steps p_.tables e_ below (T20.setTop (mkF m_ 38 #[.val (.int pa), .val (.int pb), .val (.int pc), .val (.int pd), .val (.int pe), .val (.int (if (pa &&& (1 : Int32)) = (0 : Int32) then (0 : Int32) else 1)), .val (.int (2 : Int32)), .val (.ref b20), .unset, .unset] [(.int ((pc &&& (255 : Int32)).toUInt32.toUInt16.toUInt32.toInt32)), (.int (0 : Int32)), (.ref b20)])) t_
          exact k_
        obtain ⟨T21, h21, X21, e21, W21, st21⟩ := own_stC X20 hx hZ e20 A_b20 ((pc &&& (255 : Int32)).toUInt32.toUInt16.toUInt32.toInt32) (own_nc _) 0 (by decide) (by decide) (j := (0 : Int32)) (x := ((pc &&& (255 : Int32)).toUInt32.toUInt16.toUInt32.toInt32)) (Ls := #[.val (.int pa), .val (.int pb), .val (.int pc), .val (.int pd), .val (.int pe), .val (.int (if (pa &&& (1 : Int32)) = (0 : Int32) then (0 : Int32) else 1)), .val (.int (2 : Int32)), .val (.ref b20), .unset, .unset]) (rest := []) (hb hby at_38)
        have N21 := Fr.snoc X21 N0 g_b20
        replace Z0 : n0 ≤ h21.size := W21.size ▸ Z0
        replace O := O.wr W21 g_b20
        replace A_b20 : own_A Z h21 b20 k20 .char 2 (fun x_ => .int (([((pc &&& (255 : Int32)).toUInt32.toUInt16.toUInt32.toInt32), (0 : Int32)] : List Int32).getD x_ 0)) := A_b20.setLI (by decide) (Nat.le_of_ble_eq_true rfl) W21
        refine own_st T21 (mkF m_ 39 #[.val (.int pa), .val (.int pb), .val (.int pc), .val (.int pd), .val (.int pe), .val (.int (if (pa &&& (1 : Int32)) = (0 : Int32) then (0 : Int32) else 1)), .val (.int (2 : Int32)), .val (.ref b20), .unset, .unset] []) st21 ?_
        refine own_st T21 (mkF m_ 54 #[.val (.int pa), .val (.int pb), .val (.int pc), .val (.int pd), .val (.int pe), .val (.int (if (pa &&& (1 : Int32)) = (0 : Int32) then (0 : Int32) else 1)), .val (.int (2 : Int32)), .val (.ref b20), .unset, .unset] [(.int ((pd &&& (255 : Int32)).toUInt32.toUInt16.toUInt32.toInt32)), (.int (1 : Int32)), (.ref b20)]) (fun t_ k_ => ?_) ?_
        · refine XS.iload X21.here hx rfl (hb hby at_39) rfl ?_
          show Steps p_.tables e_ below (T21.setTop (mkF m_ 41 #[.val (.int pa), .val (.int pb), .val (.int pc), .val (.int pd), .val (.int pe), .val (.int (if (pa &&& (1 : Int32)) = (0 : Int32) then (0 : Int32) else 1)), .val (.int (2 : Int32)), .val (.ref b20), .unset, .unset] [(.int (2 : Int32))])) t_
          refine XS.iconst X21.here hx rfl (hb hby at_41) ?_
          show Steps p_.tables e_ below (T21.setTop (mkF m_ 42 #[.val (.int pa), .val (.int pb), .val (.int pc), .val (.int pd), .val (.int pe), .val (.int (if (pa &&& (1 : Int32)) = (0 : Int32) then (0 : Int32) else 1)), .val (.int (2 : Int32)), .val (.ref b20), .unset, .unset] [(.int (1 : Int32)), (.int (2 : Int32))])) t_
          refine XS.icmpNo X21.here hx rfl (hb hby at_42) rfl (tlt (by decide : (1 : Int32) < (2 : Int32))).2.2.2 ?_
          show Steps p_.tables e_ below (T21.setTop (mkF m_ 45 #[.val (.int pa), .val (.int pb), .val (.int pc), .val (.int pd), .val (.int pe), .val (.int (if (pa &&& (1 : Int32)) = (0 : Int32) then (0 : Int32) else 1)), .val (.int (2 : Int32)), .val (.ref b20), .unset, .unset] [])) t_
          refine XS.aload X21.here hx rfl (hb hby at_45) rfl rfl ?_
          show Steps p_.tables e_ below (T21.setTop (mkF m_ 47 #[.val (.int pa), .val (.int pb), .val (.int pc), .val (.int pd), .val (.int pe), .val (.int (if (pa &&& (1 : Int32)) = (0 : Int32) then (0 : Int32) else 1)), .val (.int (2 : Int32)), .val (.ref b20), .unset, .unset] [(.ref b20)])) t_
          refine XS.iconst X21.here hx rfl (hb hby at_47) ?_
          show Steps p_.tables e_ below (T21.setTop (mkF m_ 48 #[.val (.int pa), .val (.int pb), .val (.int pc), .val (.int pd), .val (.int pe), .val (.int (if (pa &&& (1 : Int32)) = (0 : Int32) then (0 : Int32) else 1)), .val (.int (2 : Int32)), .val (.ref b20), .unset, .unset] [(.int (1 : Int32)), (.ref b20)])) t_
          refine XS.iloadN X21.here hx rfl (hb hby at_48) rfl ?_
          show Steps p_.tables e_ below (T21.setTop (mkF m_ 49 #[.val (.int pa), .val (.int pb), .val (.int pc), .val (.int pd), .val (.int pe), .val (.int (if (pa &&& (1 : Int32)) = (0 : Int32) then (0 : Int32) else 1)), .val (.int (2 : Int32)), .val (.ref b20), .unset, .unset] [(.int pd), (.int (1 : Int32)), (.ref b20)])) t_
          refine XS.sipush X21.here hx rfl (hb hby at_49) ?_
          show Steps p_.tables e_ below (T21.setTop (mkF m_ 52 #[.val (.int pa), .val (.int pb), .val (.int pc), .val (.int pd), .val (.int pe), .val (.int (if (pa &&& (1 : Int32)) = (0 : Int32) then (0 : Int32) else 1)), .val (.int (2 : Int32)), .val (.ref b20), .unset, .unset] [(.int (255 : Int32)), (.int pd), (.int (1 : Int32)), (.ref b20)])) t_
          refine XS.iand X21.here hx rfl (hb hby at_52) rfl ?_
          show Steps p_.tables e_ below (T21.setTop (mkF m_ 53 #[.val (.int pa), .val (.int pb), .val (.int pc), .val (.int pd), .val (.int pe), .val (.int (if (pa &&& (1 : Int32)) = (0 : Int32) then (0 : Int32) else 1)), .val (.int (2 : Int32)), .val (.ref b20), .unset, .unset] [(.int (pd &&& (255 : Int32))), (.int (1 : Int32)), (.ref b20)])) t_
          refine XS.i2c X21.here hx rfl (hb hby at_53) rfl ?_
          show Steps p_.tables e_ below (T21.setTop (mkF m_ 54 #[.val (.int pa), .val (.int pb), .val (.int pc), .val (.int pd), .val (.int pe), .val (.int (if (pa &&& (1 : Int32)) = (0 : Int32) then (0 : Int32) else 1)), .val (.int (2 : Int32)), .val (.ref b20), .unset, .unset] [(.int ((pd &&& (255 : Int32)).toUInt32.toUInt16.toUInt32.toInt32)), (.int (1 : Int32)), (.ref b20)])) t_
          exact k_
        obtain ⟨T22, h22, X22, e22, W22, st22⟩ := own_stC X21 hx hZ e21 A_b20 ((pd &&& (255 : Int32)).toUInt32.toUInt16.toUInt32.toInt32) (own_nc _) 1 (by decide) (by decide) (j := (1 : Int32)) (x := ((pd &&& (255 : Int32)).toUInt32.toUInt16.toUInt32.toInt32)) (Ls := #[.val (.int pa), .val (.int pb), .val (.int pc), .val (.int pd), .val (.int pe), .val (.int (if (pa &&& (1 : Int32)) = (0 : Int32) then (0 : Int32) else 1)), .val (.int (2 : Int32)), .val (.ref b20), .unset, .unset]) (rest := []) (hb hby at_54)
        have N22 := Fr.snoc X22 N21 g_b20
        replace Z0 : n0 ≤ h22.size := W22.size ▸ Z0
        replace O := O.wr W22 g_b20
        replace A_b20 : own_A Z h22 b20 k20 .char 2 (fun x_ => .int (([((pc &&& (255 : Int32)).toUInt32.toUInt16.toUInt32.toInt32), ((pd &&& (255 : Int32)).toUInt32.toUInt16.toUInt32.toInt32)] : List Int32).getD x_ 0)) := A_b20.setLI (by decide) (Nat.le_of_ble_eq_true rfl) W22
        refine own_st T22 (mkF m_ 55 #[.val (.int pa), .val (.int pb), .val (.int pc), .val (.int pd), .val (.int pe), .val (.int (if (pa &&& (1 : Int32)) = (0 : Int32) then (0 : Int32) else 1)), .val (.int (2 : Int32)), .val (.ref b20), .unset, .unset] []) st22 ?_
        refine own_st T22 (mkF m_ 74 #[.val (.int pa), .val (.int pb), .val (.int pc), .val (.int pd), .val (.int pe), .val (.int (if (pa &&& (1 : Int32)) = (0 : Int32) then (0 : Int32) else 1)), .val (.int (2 : Int32)), .val (.ref b20), .unset, .unset] [(.int (if (pa &&& (1 : Int32)) = (0 : Int32) then (0 : Int32) else 1))]) (fun t_ k_ => ?_) ?_
        · refine XS.iload X22.here hx rfl (hb hby at_55) rfl ?_
          show Steps p_.tables e_ below (T22.setTop (mkF m_ 57 #[.val (.int pa), .val (.int pb), .val (.int pc), .val (.int pd), .val (.int pe), .val (.int (if (pa &&& (1 : Int32)) = (0 : Int32) then (0 : Int32) else 1)), .val (.int (2 : Int32)), .val (.ref b20), .unset, .unset] [(.int (2 : Int32))])) t_
          refine XS.iconst X22.here hx rfl (hb hby at_57) ?_
          show Steps p_.tables e_ below (T22.setTop (mkF m_ 58 #[.val (.int pa), .val (.int pb), .val (.int pc), .val (.int pd), .val (.int pe), .val (.int (if (pa &&& (1 : Int32)) = (0 : Int32) then (0 : Int32) else 1)), .val (.int (2 : Int32)), .val (.ref b20), .unset, .unset] [(.int (2 : Int32)), (.int (2 : Int32))])) t_
          refine XS.icmpYes X22.here hx rfl (pc0 := 58) (pc' := 72) rfl (hb hby at_58) rfl (flt (by decide : ¬ ((2 : Int32) < (2 : Int32)))).2.2.2 (by decide) (by decide) ?_
          show Steps p_.tables e_ below (T22.setTop (mkF m_ 72 #[.val (.int pa), .val (.int pb), .val (.int pc), .val (.int pd), .val (.int pe), .val (.int (if (pa &&& (1 : Int32)) = (0 : Int32) then (0 : Int32) else 1)), .val (.int (2 : Int32)), .val (.ref b20), .unset, .unset] [])) t_
          refine XS.iload X22.here hx rfl (hb hby at_72) rfl ?_
          show Steps p_.tables e_ below (T22.setTop (mkF m_ 74 #[.val (.int pa), .val (.int pb), .val (.int pc), .val (.int pd), .val (.int pe), .val (.int (if (pa &&& (1 : Int32)) = (0 : Int32) then (0 : Int32) else 1)), .val (.int (2 : Int32)), .val (.ref b20), .unset, .unset] [(.int (if (pa &&& (1 : Int32)) = (0 : Int32) then (0 : Int32) else 1))])) t_
          exact k_
        by_cases hc74 : (pa &&& (1 : Int32)) = (0 : Int32)
        · refine own_st T22 (mkF m_ 81 #[.val (.int pa), .val (.int pb), .val (.int pc), .val (.int pd), .val (.int pe), .val (.int (if (pa &&& (1 : Int32)) = (0 : Int32) then (0 : Int32) else 1)), .val (.int (2 : Int32)), .val (.ref b20), .unset, .unset] []) (fun t_ k_ => XS.ifYes X22.here hx rfl (pc0 := 74) (pc' := 81) rfl (hb hby at_74) rfl ((if0 _ _).trans (teq (own_nt hc74)).1) (by decide) (by decide) k_) ?_
          obtain ⟨T23, h23, X23, e23, E23, A23, D23, -, st23⟩ := newO X22 hx hZ hown (hw _ (List.mem_of_getElem? (i := 1) rfl)) (hw _ (List.mem_of_getElem? (i := 2) rfl)) (hw _ (List.mem_of_getElem? (i := 3) rfl)) e22 (g := (mkF m_ 81 #[.val (.int pa), .val (.int pb), .val (.int pc), .val (.int pd), .val (.int pe), .val (.int (if (pa &&& (1 : Int32)) = (0 : Int32) then (0 : Int32) else 1)), .val (.int (2 : Int32)), .val (.ref b20), .unset, .unset] [])) rfl (hb hby at_81) (by decide) (by decide)
          obtain ⟨b23, g23⟩ : ∃ z, z = h22.size := ⟨_, rfl⟩
          rw [← g23] at A23 D23 st23
          have g_b23 : n0 ≤ b23 := g23 ▸ Z0
          have ne_b20_b23 : b20 ≠ b23 := Nat.ne_of_lt (Nat.lt_of_lt_of_le A_b20.lt (Nat.le_of_eq g23.symm))
          replace O := O.ext E23
          replace A_b20 := A_b20.ext E23
          replace Z0 : n0 ≤ h23.size := Nat.le_trans Z0 E23.1
          have F_coder_b23 : Fld Z h23 b23 "java/lang/String" "coder" "B" (.int (0 : Int32)) := D23 (Or.inr (hw _ (List.mem_of_getElem? (i := 27) rfl))) (ty := .byte) (by decide)
          have F_value_b23 : Fld Z h23 b23 "java/lang/String" "value" "[B" .null := D23 (Or.inr (hw _ (List.mem_of_getElem? (i := 29) rfl))) (ty := (.array .byte)) (by decide)
          have E_b23 := A23
          refine own_st T23 (mkF m_ 84 #[.val (.int pa), .val (.int pb), .val (.int pc), .val (.int pd), .val (.int pe), .val (.int (if (pa &&& (1 : Int32)) = (0 : Int32) then (0 : Int32) else 1)), .val (.int (2 : Int32)), .val (.ref b20), .unset, .unset] [(.ref b23)]) st23 ?_
          refine own_st T23 (mkF m_ 87 #[.val (.int pa), .val (.int pb), .val (.int pc), .val (.int pd), .val (.int pe), .val (.int (if (pa &&& (1 : Int32)) = (0 : Int32) then (0 : Int32) else 1)), .val (.int (2 : Int32)), .val (.ref b20), .unset, .unset] [(.ref b20), (.ref b23), (.ref b23)]) (fun t_ k_ => ?_) ?_
          · refine XS.dup X23.here hx rfl (hb hby at_84) rfl rfl ?_
            show Steps p_.tables e_ below (T23.setTop (mkF m_ 85 #[.val (.int pa), .val (.int pb), .val (.int pc), .val (.int pd), .val (.int pe), .val (.int (if (pa &&& (1 : Int32)) = (0 : Int32) then (0 : Int32) else 1)), .val (.int (2 : Int32)), .val (.ref b20), .unset, .unset] [(.ref b23), (.ref b23)])) t_
            refine XS.aload X23.here hx rfl (hb hby at_85) rfl rfl ?_
            show Steps p_.tables e_ below (T23.setTop (mkF m_ 87 #[.val (.int pa), .val (.int pb), .val (.int pc), .val (.int pd), .val (.int pe), .val (.int (if (pa &&& (1 : Int32)) = (0 : Int32) then (0 : Int32) else 1)), .val (.int (2 : Int32)), .val (.ref b20), .unset, .unset] [(.ref b20), (.ref b23), (.ref b23)])) t_
            exact k_
          refine own_callC X23 hx hZ rfl hown (hw _ (List.mem_of_getElem? (i := 4) rfl)) (hw _ (List.mem_of_getElem? (i := 5) rfl)) (hw _ (List.mem_of_getElem? (i := 3) rfl)) (hw _ (List.mem_of_getElem? (i := 6) rfl)) (by decide) b23 [(.ref b20)] [(.ref b23)] (rm1_2 l Z a0 hw b23 b20 k20 cs ((pc &&& (255 : Int32)).toUInt32.toUInt16.toUInt32.toInt32) ((pd &&& (255 : Int32)).toUInt32.toUInt16.toUInt32.toInt32) h23 n0 Z0 O S_CS hcs E_b23 F_value_b23 F_coder_b23 g_b23 A_b20 ne_b20_b23 (own_c255 pc) (own_c255 pd)) 1 (by decide) (by decide) e23 (by rw [hml]; rfl) (lenOf own_pd5 rfl) rfl (Nat.le_of_eq rfl) (hb hby at_87) (by decide) (by decide) ?_
          intro v24 T24 L24 X24 q24
          obtain ⟨rfl, N24q, K24⟩ := q24
          have N24 := Fr.app N22 N24q
          replace O := O.keep K24 (allS g_b23 all0)
          replace A_b20 := A_b20.keep K24 (ninS ne_b20_b23 nin0)
          -- F_coder_b23 is dropped: written by the callee
          -- F_value_b23 is dropped: written by the callee
          replace E_b23 := E_b23.keep K24
          replace Z0 : n0 ≤ T24.heap.size := Nat.le_trans Z0 K24.1
          show own_Out p_ e_ below _ _ _ _ T24 (mkF m_ 90 #[.val (.int pa), .val (.int pb), .val (.int pc), .val (.int pd), .val (.int pe), .val (.int (if (pa &&& (1 : Int32)) = (0 : Int32) then (0 : Int32) else 1)), .val (.int (2 : Int32)), .val (.ref b20), .unset, .unset] [(.ref b23)])
          refine own_st T24 (mkF m_ 92 #[.val (.int pa), .val (.int pb), .val (.int pc), .val (.int pd), .val (.int pe), .val (.int (if (pa &&& (1 : Int32)) = (0 : Int32) then (0 : Int32) else 1)), .val (.int (2 : Int32)), .val (.ref b20), .val (.ref b23), .unset] []) (fun t_ k_ => ?_) ?_
          · refine XS.astore X24.here hx rfl (hb hby at_90) rfl rfl (l' := #[.val (.int pa), .val (.int pb), .val (.int pc), .val (.int pd), .val (.int pe), .val (.int (if (pa &&& (1 : Int32)) = (0 : Int32) then (0 : Int32) else 1)), .val (.int (2 : Int32)), .val (.ref b20), .val (.ref b23), .unset]) rfl ?_
            show Steps p_.tables e_ below (T24.setTop (mkF m_ 92 #[.val (.int pa), .val (.int pb), .val (.int pc), .val (.int pd), .val (.int pe), .val (.int (if (pa &&& (1 : Int32)) = (0 : Int32) then (0 : Int32) else 1)), .val (.int (2 : Int32)), .val (.ref b20), .val (.ref b23), .unset] [])) t_
            exact k_
          obtain ⟨T25, h25, X25, e25, E25, A25, D25, -, st25⟩ := newO X24 hx hZ hown (hw _ (List.mem_of_getElem? (i := 30) rfl)) (hw _ (List.mem_of_getElem? (i := 31) rfl)) (hw _ (List.mem_of_getElem? (i := 32) rfl)) rfl (g := (mkF m_ 92 #[.val (.int pa), .val (.int pb), .val (.int pc), .val (.int pd), .val (.int pe), .val (.int (if (pa &&& (1 : Int32)) = (0 : Int32) then (0 : Int32) else 1)), .val (.int (2 : Int32)), .val (.ref b20), .val (.ref b23), .unset] [])) rfl (hb hby at_92) (by decide) (by decide)
          obtain ⟨b25, g25⟩ : ∃ z, z = T24.heap.size := ⟨_, rfl⟩
          rw [← g25] at A25 D25 st25
          have g_b25 : n0 ≤ b25 := g25 ▸ Z0
          have ne_b20_b25 : b20 ≠ b25 := Nat.ne_of_lt (Nat.lt_of_lt_of_le A_b20.lt (Nat.le_of_eq g25.symm))
          have ne_b23_b25 : b23 ≠ b25 := Nat.ne_of_lt (Nat.lt_of_lt_of_le E_b23.lt (Nat.le_of_eq g25.symm))
          replace O := O.ext E25
          replace A_b20 := A_b20.ext E25
          replace E_b23 := E_b23.ext E25
          replace Z0 : n0 ≤ h25.size := Nat.le_trans Z0 E25.1
          have F_values_b25 : Fld Z h25 b25 "com/example/mustr/mustr/rules/FieldValues" "values" "Ljava/util/Map;" .null := D25 (Or.inr (hw _ (List.mem_of_getElem? (i := 43) rfl))) (ty := (.object "java/util/Map")) (by decide)
          have F_unreadable_b25 : Fld Z h25 b25 "com/example/mustr/mustr/rules/FieldValues" "unreadable" "Ljava/lang/String;" .null := D25 (Or.inr (hw _ (List.mem_of_getElem? (i := 45) rfl))) (ty := (.object "java/lang/String")) (by decide)
          have E_b25 := A25
          refine own_st T25 (mkF m_ 95 #[.val (.int pa), .val (.int pb), .val (.int pc), .val (.int pd), .val (.int pe), .val (.int (if (pa &&& (1 : Int32)) = (0 : Int32) then (0 : Int32) else 1)), .val (.int (2 : Int32)), .val (.ref b20), .val (.ref b23), .unset] [(.ref b25)]) st25 ?_
          refine own_st T25 (mkF m_ 99 #[.val (.int pa), .val (.int pb), .val (.int pc), .val (.int pd), .val (.int pe), .val (.int (if (pa &&& (1 : Int32)) = (0 : Int32) then (0 : Int32) else 1)), .val (.int (2 : Int32)), .val (.ref b20), .val (.ref b23), .unset] [(.ref b23), .null, (.ref b25), (.ref b25)]) (fun t_ k_ => ?_) ?_
          · refine XS.dup X25.here hx rfl (hb hby at_95) rfl rfl ?_
            show Steps p_.tables e_ below (T25.setTop (mkF m_ 96 #[.val (.int pa), .val (.int pb), .val (.int pc), .val (.int pd), .val (.int pe), .val (.int (if (pa &&& (1 : Int32)) = (0 : Int32) then (0 : Int32) else 1)), .val (.int (2 : Int32)), .val (.ref b20), .val (.ref b23), .unset] [(.ref b25), (.ref b25)])) t_
            refine XS.aconstNull X25.here hx rfl (hb hby at_96) ?_
            show Steps p_.tables e_ below (T25.setTop (mkF m_ 97 #[.val (.int pa), .val (.int pb), .val (.int pc), .val (.int pd), .val (.int pe), .val (.int (if (pa &&& (1 : Int32)) = (0 : Int32) then (0 : Int32) else 1)), .val (.int (2 : Int32)), .val (.ref b20), .val (.ref b23), .unset] [.null, (.ref b25), (.ref b25)])) t_
            refine XS.aload X25.here hx rfl (hb hby at_97) rfl rfl ?_
            show Steps p_.tables e_ below (T25.setTop (mkF m_ 99 #[.val (.int pa), .val (.int pb), .val (.int pc), .val (.int pd), .val (.int pe), .val (.int (if (pa &&& (1 : Int32)) = (0 : Int32) then (0 : Int32) else 1)), .val (.int (2 : Int32)), .val (.ref b20), .val (.ref b23), .unset] [(.ref b23), .null, (.ref b25), (.ref b25)])) t_
            exact k_
          refine own_callC X25 hx hZ rfl hown (hw _ (List.mem_of_getElem? (i := 33) rfl)) (hw _ (List.mem_of_getElem? (i := 34) rfl)) (hw _ (List.mem_of_getElem? (i := 32) rfl)) (hw _ (List.mem_of_getElem? (i := 35) rfl)) (by decide) b25 [.null, (.ref b23)] [(.ref b25)] (rm7R l Z a0 hw b25 b23 h25 n0 Z0 E_b25 F_values_b25 F_unreadable_b25 g_b25) 1 (by decide) (by decide) e25 (by rw [hml]; rfl) (lenOf own_pd6 rfl) rfl (Nat.le_of_eq rfl) (hb hby at_99) (by decide) (by decide) ?_
          intro v26 T26 L26 X26 q26
          obtain ⟨rfl, N26q, K26, Eq26, Fq26_values, Fq26_unreadable⟩ := q26
          have N26 := Fr.app N24 N26q
          replace O := O.keep K26 (allS g_b25 all0)
          replace A_b20 := A_b20.keep K26 (ninS ne_b20_b25 nin0)
          replace E_b23 := E_b23.keep K26
          -- F_values_b25 is dropped: written by the callee
          -- F_unreadable_b25 is dropped: written by the callee
          replace E_b25 := E_b25.keep K26
          replace Z0 : n0 ≤ T26.heap.size := Nat.le_trans Z0 K26.1
          have F_values_b25 := Fq26_values
          have F_unreadable_b25 := Fq26_unreadable
          show own_Out p_ e_ below _ _ _ _ T26 (mkF m_ 102 #[.val (.int pa), .val (.int pb), .val (.int pc), .val (.int pd), .val (.int pe), .val (.int (if (pa &&& (1 : Int32)) = (0 : Int32) then (0 : Int32) else 1)), .val (.int (2 : Int32)), .val (.ref b20), .val (.ref b23), .unset] [(.ref b25)])
          refine own_st T26 (mkF m_ 106 #[.val (.int pa), .val (.int pb), .val (.int pc), .val (.int pd), .val (.int pe), .val (.int (if (pa &&& (1 : Int32)) = (0 : Int32) then (0 : Int32) else 1)), .val (.int (2 : Int32)), .val (.ref b20), .val (.ref b23), .val (.ref b25)] [(.ref b25)]) (fun t_ k_ => ?_) ?_
          · refine XS.astore X26.here hx rfl (hb hby at_102) rfl rfl (l' := #[.val (.int pa), .val (.int pb), .val (.int pc), .val (.int pd), .val (.int pe), .val (.int (if (pa &&& (1 : Int32)) = (0 : Int32) then (0 : Int32) else 1)), .val (.int (2 : Int32)), .val (.ref b20), .val (.ref b23), .val (.ref b25)]) rfl ?_
            show Steps p_.tables e_ below (T26.setTop (mkF m_ 104 #[.val (.int pa), .val (.int pb), .val (.int pc), .val (.int pd), .val (.int pe), .val (.int (if (pa &&& (1 : Int32)) = (0 : Int32) then (0 : Int32) else 1)), .val (.int (2 : Int32)), .val (.ref b20), .val (.ref b23), .val (.ref b25)] [])) t_
            refine XS.aload X26.here hx rfl (hb hby at_104) rfl rfl ?_
            show Steps p_.tables e_ below (T26.setTop (mkF m_ 106 #[.val (.int pa), .val (.int pb), .val (.int pc), .val (.int pd), .val (.int pe), .val (.int (if (pa &&& (1 : Int32)) = (0 : Int32) then (0 : Int32) else 1)), .val (.int (2 : Int32)), .val (.ref b20), .val (.ref b23), .val (.ref b25)] [(.ref b25)])) t_
            exact k_
          refine own_callV X26 hx hZ (y := (⟨"com/example/mustr/mustr/rules/FieldValues", "isRead", "()Z"⟩ : MethodName)) (z := (⟨"com/example/mustr/mustr/rules/FieldValues", "isRead", "()Z"⟩ : MethodName)) hown (hw _ (List.mem_of_getElem? (i := 46) rfl)) (hw _ (List.mem_of_getElem? (i := 47) rfl)) (notFace_of_selects (args := #[]) (mvT hZ (hw _ (List.mem_of_getElem? (i := 49) rfl)))) (hw _ (List.mem_of_getElem? (i := 49) rfl)) (hw _ (List.mem_of_getElem? (i := 48) rfl)) (hw _ (List.mem_of_getElem? (i := 32) rfl)) (hw _ (List.mem_of_getElem? (i := 50) rfl)) (by decide) b25 [] [] E_b25 (rm9R l Z a0 hw b25 b23 T26.heap n0 Z0 F_unreadable_b25) 0 (by decide) (by decide) rfl (by rw [hml]; rfl) (lenOf own_pd7 rfl) rfl (Nat.le_of_eq rfl) (hb hby at_106) (by decide) (by decide) ?_
          intro v27 T27 L27 X27 q27
          obtain ⟨rfl, N27q, e27⟩ := q27
          have N27 := Fr.app N26 N27q
          show own_Out p_ e_ below _ _ _ _ T27 (mkF m_ 109 #[.val (.int pa), .val (.int pb), .val (.int pc), .val (.int pd), .val (.int pe), .val (.int (if (pa &&& (1 : Int32)) = (0 : Int32) then (0 : Int32) else 1)), .val (.int (2 : Int32)), .val (.ref b20), .val (.ref b23), .val (.ref b25)] [(.int (0 : Int32))])
          refine own_st T27 (mkF m_ 119 #[.val (.int pa), .val (.int pb), .val (.int pc), .val (.int pd), .val (.int pe), .val (.int (if (pa &&& (1 : Int32)) = (0 : Int32) then (0 : Int32) else 1)), .val (.int (2 : Int32)), .val (.ref b20), .val (.ref b23), .val (.ref b25)] [(.int (1 : Int32))]) (fun t_ k_ => ?_) ?_
          · refine XS.iload X27.here hx rfl (hb hby at_109) rfl ?_
            show Steps p_.tables e_ below (T27.setTop (mkF m_ 111 #[.val (.int pa), .val (.int pb), .val (.int pc), .val (.int pd), .val (.int pe), .val (.int (if (pa &&& (1 : Int32)) = (0 : Int32) then (0 : Int32) else 1)), .val (.int (2 : Int32)), .val (.ref b20), .val (.ref b23), .val (.ref b25)] [(.int (if (pa &&& (1 : Int32)) = (0 : Int32) then (0 : Int32) else 1)), (.int (0 : Int32))])) t_
            refine XS.icmpNo X27.here hx rfl (hb hby at_111) rfl (teq (by rw [if_pos hc74] : (0 : Int32) = (if (pa &&& (1 : Int32)) = (0 : Int32) then (0 : Int32) else 1))).2 ?_
            show Steps p_.tables e_ below (T27.setTop (mkF m_ 114 #[.val (.int pa), .val (.int pb), .val (.int pc), .val (.int pd), .val (.int pe), .val (.int (if (pa &&& (1 : Int32)) = (0 : Int32) then (0 : Int32) else 1)), .val (.int (2 : Int32)), .val (.ref b20), .val (.ref b23), .val (.ref b25)] [])) t_
            refine XS.iconst X27.here hx rfl (hb hby at_114) ?_
            show Steps p_.tables e_ below (T27.setTop (mkF m_ 115 #[.val (.int pa), .val (.int pb), .val (.int pc), .val (.int pd), .val (.int pe), .val (.int (if (pa &&& (1 : Int32)) = (0 : Int32) then (0 : Int32) else 1)), .val (.int (2 : Int32)), .val (.ref b20), .val (.ref b23), .val (.ref b25)] [(.int (1 : Int32))])) t_
            refine XS.goto X27.here hx rfl (pc0 := 115) (pc' := 119) rfl (hb hby at_115) (by decide) (by decide) ?_
            show Steps p_.tables e_ below (T27.setTop (mkF m_ 119 #[.val (.int pa), .val (.int pb), .val (.int pc), .val (.int pd), .val (.int pe), .val (.int (if (pa &&& (1 : Int32)) = (0 : Int32) then (0 : Int32) else 1)), .val (.int (2 : Int32)), .val (.ref b20), .val (.ref b23), .val (.ref b25)] [(.int (1 : Int32))])) t_
            exact k_
          refine own_retN X27 hx hlk (t := .boolean) hret (by simp) (hb hby at_119) (by decide) (by decide) ?_
          exact ⟨rfl, N27⟩
        · refine own_st T22 (mkF m_ 77 #[.val (.int pa), .val (.int pb), .val (.int pc), .val (.int pd), .val (.int pe), .val (.int (if (pa &&& (1 : Int32)) = (0 : Int32) then (0 : Int32) else 1)), .val (.int (2 : Int32)), .val (.ref b20), .unset, .unset] []) (fun t_ k_ => XS.ifNo X22.here hx rfl (hb hby at_74) rfl ((if0 _ _).trans (feq (own_nf hc74)).1) k_) ?_
          refine own_st T22 (mkF m_ 92 #[.val (.int pa), .val (.int pb), .val (.int pc), .val (.int pd), .val (.int pe), .val (.int (if (pa &&& (1 : Int32)) = (0 : Int32) then (0 : Int32) else 1)), .val (.int (2 : Int32)), .val (.ref b20), .val .null, .unset] []) (fun t_ k_ => ?_) ?_
          · refine XS.aconstNull X22.here hx rfl (hb hby at_77) ?_
            show Steps p_.tables e_ below (T22.setTop (mkF m_ 78 #[.val (.int pa), .val (.int pb), .val (.int pc), .val (.int pd), .val (.int pe), .val (.int (if (pa &&& (1 : Int32)) = (0 : Int32) then (0 : Int32) else 1)), .val (.int (2 : Int32)), .val (.ref b20), .unset, .unset] [.null])) t_
            refine XS.goto X22.here hx rfl (pc0 := 78) (pc' := 90) rfl (hb hby at_78) (by decide) (by decide) ?_
            show Steps p_.tables e_ below (T22.setTop (mkF m_ 90 #[.val (.int pa), .val (.int pb), .val (.int pc), .val (.int pd), .val (.int pe), .val (.int (if (pa &&& (1 : Int32)) = (0 : Int32) then (0 : Int32) else 1)), .val (.int (2 : Int32)), .val (.ref b20), .unset, .unset] [.null])) t_
            refine XS.astore X22.here hx rfl (hb hby at_90) rfl rfl (l' := #[.val (.int pa), .val (.int pb), .val (.int pc), .val (.int pd), .val (.int pe), .val (.int (if (pa &&& (1 : Int32)) = (0 : Int32) then (0 : Int32) else 1)), .val (.int (2 : Int32)), .val (.ref b20), .val .null, .unset]) rfl ?_
            show Steps p_.tables e_ below (T22.setTop (mkF m_ 92 #[.val (.int pa), .val (.int pb), .val (.int pc), .val (.int pd), .val (.int pe), .val (.int (if (pa &&& (1 : Int32)) = (0 : Int32) then (0 : Int32) else 1)), .val (.int (2 : Int32)), .val (.ref b20), .val .null, .unset] [])) t_
            exact k_
          obtain ⟨T28, h28, X28, e28, E28, A28, D28, -, st28⟩ := newO X22 hx hZ hown (hw _ (List.mem_of_getElem? (i := 30) rfl)) (hw _ (List.mem_of_getElem? (i := 31) rfl)) (hw _ (List.mem_of_getElem? (i := 32) rfl)) e22 (g := (mkF m_ 92 #[.val (.int pa), .val (.int pb), .val (.int pc), .val (.int pd), .val (.int pe), .val (.int (if (pa &&& (1 : Int32)) = (0 : Int32) then (0 : Int32) else 1)), .val (.int (2 : Int32)), .val (.ref b20), .val .null, .unset] [])) rfl (hb hby at_92) (by decide) (by decide)
          obtain ⟨b28, g28⟩ : ∃ z, z = h22.size := ⟨_, rfl⟩
          rw [← g28] at A28 D28 st28
          have g_b28 : n0 ≤ b28 := g28 ▸ Z0
          have ne_b20_b28 : b20 ≠ b28 := Nat.ne_of_lt (Nat.lt_of_lt_of_le A_b20.lt (Nat.le_of_eq g28.symm))
          replace O := O.ext E28
          replace A_b20 := A_b20.ext E28
          replace Z0 : n0 ≤ h28.size := Nat.le_trans Z0 E28.1
          have F_values_b28 : Fld Z h28 b28 "com/example/mustr/mustr/rules/FieldValues" "values" "Ljava/util/Map;" .null := D28 (Or.inr (hw _ (List.mem_of_getElem? (i := 43) rfl))) (ty := (.object "java/util/Map")) (by decide)
          have F_unreadable_b28 : Fld Z h28 b28 "com/example/mustr/mustr/rules/FieldValues" "unreadable" "Ljava/lang/String;" .null := D28 (Or.inr (hw _ (List.mem_of_getElem? (i := 45) rfl))) (ty := (.object "java/lang/String")) (by decide)
          have E_b28 := A28
          refine own_st T28 (mkF m_ 95 #[.val (.int pa), .val (.int pb), .val (.int pc), .val (.int pd), .val (.int pe), .val (.int (if (pa &&& (1 : Int32)) = (0 : Int32) then (0 : Int32) else 1)), .val (.int (2 : Int32)), .val (.ref b20), .val .null, .unset] [(.ref b28)]) st28 ?_
          refine own_st T28 (mkF m_ 99 #[.val (.int pa), .val (.int pb), .val (.int pc), .val (.int pd), .val (.int pe), .val (.int (if (pa &&& (1 : Int32)) = (0 : Int32) then (0 : Int32) else 1)), .val (.int (2 : Int32)), .val (.ref b20), .val .null, .unset] [.null, .null, (.ref b28), (.ref b28)]) (fun t_ k_ => ?_) ?_
          · refine XS.dup X28.here hx rfl (hb hby at_95) rfl rfl ?_
            show Steps p_.tables e_ below (T28.setTop (mkF m_ 96 #[.val (.int pa), .val (.int pb), .val (.int pc), .val (.int pd), .val (.int pe), .val (.int (if (pa &&& (1 : Int32)) = (0 : Int32) then (0 : Int32) else 1)), .val (.int (2 : Int32)), .val (.ref b20), .val .null, .unset] [(.ref b28), (.ref b28)])) t_
            refine XS.aconstNull X28.here hx rfl (hb hby at_96) ?_
            show Steps p_.tables e_ below (T28.setTop (mkF m_ 97 #[.val (.int pa), .val (.int pb), .val (.int pc), .val (.int pd), .val (.int pe), .val (.int (if (pa &&& (1 : Int32)) = (0 : Int32) then (0 : Int32) else 1)), .val (.int (2 : Int32)), .val (.ref b20), .val .null, .unset] [.null, (.ref b28), (.ref b28)])) t_
            refine XS.aload X28.here hx rfl (hb hby at_97) rfl rfl ?_
            show Steps p_.tables e_ below (T28.setTop (mkF m_ 99 #[.val (.int pa), .val (.int pb), .val (.int pc), .val (.int pd), .val (.int pe), .val (.int (if (pa &&& (1 : Int32)) = (0 : Int32) then (0 : Int32) else 1)), .val (.int (2 : Int32)), .val (.ref b20), .val .null, .unset] [.null, .null, (.ref b28), (.ref b28)])) t_
            exact k_
          refine own_callC X28 hx hZ rfl hown (hw _ (List.mem_of_getElem? (i := 33) rfl)) (hw _ (List.mem_of_getElem? (i := 34) rfl)) (hw _ (List.mem_of_getElem? (i := 32) rfl)) (hw _ (List.mem_of_getElem? (i := 35) rfl)) (by decide) b28 [.null, .null] [(.ref b28)] (rm7N l Z a0 hw b28 h28 n0 Z0 E_b28 F_values_b28 F_unreadable_b28 g_b28) 1 (by decide) (by decide) e28 (by rw [hml]; rfl) (lenOf own_pd6 rfl) rfl (Nat.le_of_eq rfl) (hb hby at_99) (by decide) (by decide) ?_
          intro v29 T29 L29 X29 q29
          obtain ⟨rfl, N29q, K29, Eq29, Fq29_values, Fq29_unreadable⟩ := q29
          have N29 := Fr.app N22 N29q
          replace O := O.keep K29 (allS g_b28 all0)
          replace A_b20 := A_b20.keep K29 (ninS ne_b20_b28 nin0)
          -- F_values_b28 is dropped: written by the callee
          -- F_unreadable_b28 is dropped: written by the callee
          replace E_b28 := E_b28.keep K29
          replace Z0 : n0 ≤ T29.heap.size := Nat.le_trans Z0 K29.1
          have F_values_b28 := Fq29_values
          have F_unreadable_b28 := Fq29_unreadable
          show own_Out p_ e_ below _ _ _ _ T29 (mkF m_ 102 #[.val (.int pa), .val (.int pb), .val (.int pc), .val (.int pd), .val (.int pe), .val (.int (if (pa &&& (1 : Int32)) = (0 : Int32) then (0 : Int32) else 1)), .val (.int (2 : Int32)), .val (.ref b20), .val .null, .unset] [(.ref b28)])
          refine own_st T29 (mkF m_ 106 #[.val (.int pa), .val (.int pb), .val (.int pc), .val (.int pd), .val (.int pe), .val (.int (if (pa &&& (1 : Int32)) = (0 : Int32) then (0 : Int32) else 1)), .val (.int (2 : Int32)), .val (.ref b20), .val .null, .val (.ref b28)] [(.ref b28)]) (fun t_ k_ => ?_) ?_
          · refine XS.astore X29.here hx rfl (hb hby at_102) rfl rfl (l' := #[.val (.int pa), .val (.int pb), .val (.int pc), .val (.int pd), .val (.int pe), .val (.int (if (pa &&& (1 : Int32)) = (0 : Int32) then (0 : Int32) else 1)), .val (.int (2 : Int32)), .val (.ref b20), .val .null, .val (.ref b28)]) rfl ?_
            show Steps p_.tables e_ below (T29.setTop (mkF m_ 104 #[.val (.int pa), .val (.int pb), .val (.int pc), .val (.int pd), .val (.int pe), .val (.int (if (pa &&& (1 : Int32)) = (0 : Int32) then (0 : Int32) else 1)), .val (.int (2 : Int32)), .val (.ref b20), .val .null, .val (.ref b28)] [])) t_
            refine XS.aload X29.here hx rfl (hb hby at_104) rfl rfl ?_
            show Steps p_.tables e_ below (T29.setTop (mkF m_ 106 #[.val (.int pa), .val (.int pb), .val (.int pc), .val (.int pd), .val (.int pe), .val (.int (if (pa &&& (1 : Int32)) = (0 : Int32) then (0 : Int32) else 1)), .val (.int (2 : Int32)), .val (.ref b20), .val .null, .val (.ref b28)] [(.ref b28)])) t_
            exact k_
          refine own_callV X29 hx hZ (y := (⟨"com/example/mustr/mustr/rules/FieldValues", "isRead", "()Z"⟩ : MethodName)) (z := (⟨"com/example/mustr/mustr/rules/FieldValues", "isRead", "()Z"⟩ : MethodName)) hown (hw _ (List.mem_of_getElem? (i := 46) rfl)) (hw _ (List.mem_of_getElem? (i := 47) rfl)) (notFace_of_selects (args := #[]) (mvT hZ (hw _ (List.mem_of_getElem? (i := 49) rfl)))) (hw _ (List.mem_of_getElem? (i := 49) rfl)) (hw _ (List.mem_of_getElem? (i := 48) rfl)) (hw _ (List.mem_of_getElem? (i := 32) rfl)) (hw _ (List.mem_of_getElem? (i := 50) rfl)) (by decide) b28 [] [] E_b28 (rm9N l Z a0 hw b28 T29.heap n0 Z0 F_unreadable_b28) 0 (by decide) (by decide) rfl (by rw [hml]; rfl) (lenOf own_pd7 rfl) rfl (Nat.le_of_eq rfl) (hb hby at_106) (by decide) (by decide) ?_
          intro v30 T30 L30 X30 q30
          obtain ⟨rfl, N30q, e30⟩ := q30
          have N30 := Fr.app N29 N30q
          show own_Out p_ e_ below _ _ _ _ T30 (mkF m_ 109 #[.val (.int pa), .val (.int pb), .val (.int pc), .val (.int pd), .val (.int pe), .val (.int (if (pa &&& (1 : Int32)) = (0 : Int32) then (0 : Int32) else 1)), .val (.int (2 : Int32)), .val (.ref b20), .val .null, .val (.ref b28)] [(.int (1 : Int32))])
          refine own_st T30 (mkF m_ 119 #[.val (.int pa), .val (.int pb), .val (.int pc), .val (.int pd), .val (.int pe), .val (.int (if (pa &&& (1 : Int32)) = (0 : Int32) then (0 : Int32) else 1)), .val (.int (2 : Int32)), .val (.ref b20), .val .null, .val (.ref b28)] [(.int (1 : Int32))]) (fun t_ k_ => ?_) ?_
          · refine XS.iload X30.here hx rfl (hb hby at_109) rfl ?_
            show Steps p_.tables e_ below (T30.setTop (mkF m_ 111 #[.val (.int pa), .val (.int pb), .val (.int pc), .val (.int pd), .val (.int pe), .val (.int (if (pa &&& (1 : Int32)) = (0 : Int32) then (0 : Int32) else 1)), .val (.int (2 : Int32)), .val (.ref b20), .val .null, .val (.ref b28)] [(.int (if (pa &&& (1 : Int32)) = (0 : Int32) then (0 : Int32) else 1)), (.int (1 : Int32))])) t_
            refine XS.icmpNo X30.here hx rfl (hb hby at_111) rfl (teq (by rw [if_neg hc74] : (1 : Int32) = (if (pa &&& (1 : Int32)) = (0 : Int32) then (0 : Int32) else 1))).2 ?_
            show Steps p_.tables e_ below (T30.setTop (mkF m_ 114 #[.val (.int pa), .val (.int pb), .val (.int pc), .val (.int pd), .val (.int pe), .val (.int (if (pa &&& (1 : Int32)) = (0 : Int32) then (0 : Int32) else 1)), .val (.int (2 : Int32)), .val (.ref b20), .val .null, .val (.ref b28)] [])) t_
            refine XS.iconst X30.here hx rfl (hb hby at_114) ?_
            show Steps p_.tables e_ below (T30.setTop (mkF m_ 115 #[.val (.int pa), .val (.int pb), .val (.int pc), .val (.int pd), .val (.int pe), .val (.int (if (pa &&& (1 : Int32)) = (0 : Int32) then (0 : Int32) else 1)), .val (.int (2 : Int32)), .val (.ref b20), .val .null, .val (.ref b28)] [(.int (1 : Int32))])) t_
            refine XS.goto X30.here hx rfl (pc0 := 115) (pc' := 119) rfl (hb hby at_115) (by decide) (by decide) ?_
            show Steps p_.tables e_ below (T30.setTop (mkF m_ 119 #[.val (.int pa), .val (.int pb), .val (.int pc), .val (.int pd), .val (.int pe), .val (.int (if (pa &&& (1 : Int32)) = (0 : Int32) then (0 : Int32) else 1)), .val (.int (2 : Int32)), .val (.ref b20), .val .null, .val (.ref b28)] [(.int (1 : Int32))])) t_
            exact k_
          refine own_retN X30 hx hlk (t := .boolean) hret (by simp) (hb hby at_119) (by decide) (by decide) ?_
          exact ⟨rfl, N30⟩
      · skip
        have hn3 := own_n3 hn0 hn1 hn2
        refine own_OutW.of ?_
        refine own_st s₁ (mkF m_ 20 #[.val (.int pa), .val (.int pb), .val (.int pc), .val (.int pd), .val (.int pe), .val (.int (if (pa &&& (1 : Int32)) = (0 : Int32) then (0 : Int32) else 1)), .val (.int (3 : Int32)), .unset, .unset, .unset] [(.int (3 : Int32))]) (fun t_ k_ => ?_) ?_
        · refine XS.iloadN X0.here hx rfl (hb hby at_0) rfl ?_
          show Steps p_.tables e_ below (s₁.setTop (mkF m_ 1 #[.val (.int pa), .val (.int pb), .val (.int pc), .val (.int pd), .val (.int pe), .unset, .unset, .unset, .unset, .unset] [(.int pa)])) t_
          refine XS.iconst X0.here hx rfl (hb hby at_1) ?_
          show Steps p_.tables e_ below (s₁.setTop (mkF m_ 2 #[.val (.int pa), .val (.int pb), .val (.int pc), .val (.int pd), .val (.int pe), .unset, .unset, .unset, .unset, .unset] [(.int (1 : Int32)), (.int pa)])) t_
          refine XS.iand X0.here hx rfl (hb hby at_2) rfl ?_
          show Steps p_.tables e_ below (s₁.setTop (mkF m_ 3 #[.val (.int pa), .val (.int pb), .val (.int pc), .val (.int pd), .val (.int pe), .unset, .unset, .unset, .unset, .unset] [(.int (pa &&& (1 : Int32)))])) t_
          have jn3 : ∀ t_, Steps p_.tables e_ below (s₁.setTop (mkF m_ 11 #[.val (.int pa), .val (.int pb), .val (.int pc), .val (.int pd), .val (.int pe), .unset, .unset, .unset, .unset, .unset] [(.int (if (pa &&& (1 : Int32)) = (0 : Int32) then (0 : Int32) else 1))])) t_ → Steps p_.tables e_ below (s₁.setTop (mkF m_ 3 #[.val (.int pa), .val (.int pb), .val (.int pc), .val (.int pd), .val (.int pe), .unset, .unset, .unset, .unset, .unset] [(.int (pa &&& (1 : Int32)))])) t_ := by
            intro t_ k_
            by_cases hc3 : (pa &&& (1 : Int32)) = (0 : Int32)
            · refine XS.ifYes X0.here hx rfl (pc0 := 3) (pc' := 10) rfl (hb hby at_3) rfl ((if0 _ _).trans (teq hc3).1) (by decide) (by decide) ?_
              show Steps p_.tables e_ below (s₁.setTop (mkF m_ 10 #[.val (.int pa), .val (.int pb), .val (.int pc), .val (.int pd), .val (.int pe), .unset, .unset, .unset, .unset, .unset] [])) t_
              refine XS.iconst X0.here hx rfl (hb hby at_10) ?_
              show Steps p_.tables e_ below (s₁.setTop (mkF m_ 11 #[.val (.int pa), .val (.int pb), .val (.int pc), .val (.int pd), .val (.int pe), .unset, .unset, .unset, .unset, .unset] [(.int (0 : Int32))])) t_
              simp only [if_pos hc3] at k_ ⊢
              exact k_
            · refine XS.ifNo X0.here hx rfl (hb hby at_3) rfl ((if0 _ _).trans (feq hc3).1) ?_
              show Steps p_.tables e_ below (s₁.setTop (mkF m_ 6 #[.val (.int pa), .val (.int pb), .val (.int pc), .val (.int pd), .val (.int pe), .unset, .unset, .unset, .unset, .unset] [])) t_
              refine XS.iconst X0.here hx rfl (hb hby at_6) ?_
              show Steps p_.tables e_ below (s₁.setTop (mkF m_ 7 #[.val (.int pa), .val (.int pb), .val (.int pc), .val (.int pd), .val (.int pe), .unset, .unset, .unset, .unset, .unset] [(.int (1 : Int32))])) t_
              refine XS.goto X0.here hx rfl (pc0 := 7) (pc' := 11) rfl (hb hby at_7) (by decide) (by decide) ?_
              show Steps p_.tables e_ below (s₁.setTop (mkF m_ 11 #[.val (.int pa), .val (.int pb), .val (.int pc), .val (.int pd), .val (.int pe), .unset, .unset, .unset, .unset, .unset] [(.int (1 : Int32))])) t_
              simp only [if_neg hc3] at k_ ⊢
              exact k_
          refine jn3 _ ?_
          show Steps p_.tables e_ below (s₁.setTop (mkF m_ 11 #[.val (.int pa), .val (.int pb), .val (.int pc), .val (.int pd), .val (.int pe), .unset, .unset, .unset, .unset, .unset] [(.int (if (pa &&& (1 : Int32)) = (0 : Int32) then (0 : Int32) else 1))])) t_
          refine XS.istore X0.here hx rfl (hb hby at_11) rfl (l' := #[.val (.int pa), .val (.int pb), .val (.int pc), .val (.int pd), .val (.int pe), .val (.int (if (pa &&& (1 : Int32)) = (0 : Int32) then (0 : Int32) else 1)), .unset, .unset, .unset, .unset]) rfl ?_
          show Steps p_.tables e_ below (s₁.setTop (mkF m_ 13 #[.val (.int pa), .val (.int pb), .val (.int pc), .val (.int pd), .val (.int pe), .val (.int (if (pa &&& (1 : Int32)) = (0 : Int32) then (0 : Int32) else 1)), .unset, .unset, .unset, .unset] [])) t_
          refine XS.iloadN X0.here hx rfl (hb hby at_13) rfl ?_
          show Steps p_.tables e_ below (s₁.setTop (mkF m_ 14 #[.val (.int pa), .val (.int pb), .val (.int pc), .val (.int pd), .val (.int pe), .val (.int (if (pa &&& (1 : Int32)) = (0 : Int32) then (0 : Int32) else 1)), .unset, .unset, .unset, .unset] [(.int pb)])) t_
          refine XS.iconst X0.here hx rfl (hb hby at_14) ?_
          show Steps p_.tables e_ below (s₁.setTop (mkF m_ 15 #[.val (.int pa), .val (.int pb), .val (.int pc), .val (.int pd), .val (.int pe), .val (.int (if (pa &&& (1 : Int32)) = (0 : Int32) then (0 : Int32) else 1)), .unset, .unset, .unset, .unset] [(.int (3 : Int32)), (.int pb)])) t_
          refine XS.iand X0.here hx rfl (hb hby at_15) rfl ?_
          rw [hn3]
          show Steps p_.tables e_ below (s₁.setTop (mkF m_ 16 #[.val (.int pa), .val (.int pb), .val (.int pc), .val (.int pd), .val (.int pe), .val (.int (if (pa &&& (1 : Int32)) = (0 : Int32) then (0 : Int32) else 1)), .unset, .unset, .unset, .unset] [(.int (3 : Int32))])) t_
          refine XS.istore X0.here hx rfl (hb hby at_16) rfl (l' := #[.val (.int pa), .val (.int pb), .val (.int pc), .val (.int pd), .val (.int pe), .val (.int (if (pa &&& (1 : Int32)) = (0 : Int32) then (0 : Int32) else 1)), .val (.int (3 : Int32)), .unset, .unset, .unset]) rfl ?_
          show Steps p_.tables e_ below (s₁.setTop (mkF m_ 18 #[.val (.int pa), .val (.int pb), .val (.int pc), .val (.int pd), .val (.int pe), .val (.int (if (pa &&& (1 : Int32)) = (0 : Int32) then (0 : Int32) else 1)), .val (.int (3 : Int32)), .unset, .unset, .unset] [])) t_
          refine XS.iload X0.here hx rfl (hb hby at_18) rfl ?_
          show Steps p_.tables e_ below (s₁.setTop (mkF m_ 20 #[.val (.int pa), .val (.int pb), .val (.int pc), .val (.int pd), .val (.int pe), .val (.int (if (pa &&& (1 : Int32)) = (0 : Int32) then (0 : Int32) else 1)), .val (.int (3 : Int32)), .unset, .unset, .unset] [(.int (3 : Int32))])) t_
          exact k_
        obtain ⟨T31, h31, k31, X31, e31, E31, A31, st31⟩ := newP X0 hx hZ (hw _ (List.mem_of_getElem? (i := 0) rfl)) e0 (g := (mkF m_ 20 #[.val (.int pa), .val (.int pb), .val (.int pc), .val (.int pd), .val (.int pe), .val (.int (if (pa &&& (1 : Int32)) = (0 : Int32) then (0 : Int32) else 1)), .val (.int (3 : Int32)), .unset, .unset, .unset] [(.int (3 : Int32))])) rfl (hb hby at_20) rfl (by decide) (cap := 3) (by decide) (by decide) (by decide) (by decide)
        obtain ⟨b31, g31⟩ : ∃ z, z = h0.size := ⟨_, rfl⟩
        rw [← g31] at A31 st31
        have g_b31 : n0 ≤ b31 := g31 ▸ Z0
        replace O := O.ext E31
        replace Z0 : n0 ≤ h31.size := Nat.le_trans Z0 E31.1
        have A_b31 : own_A Z h31 b31 k31 .char 3 (fun x_ => .int (([(0 : Int32), (0 : Int32), (0 : Int32)] : List Int32).getD x_ 0)) := own_A.newLI A31 (by decide) 3 (by decide) rfl
        refine own_st T31 (mkF m_ 22 #[.val (.int pa), .val (.int pb), .val (.int pc), .val (.int pd), .val (.int pe), .val (.int (if (pa &&& (1 : Int32)) = (0 : Int32) then (0 : Int32) else 1)), .val (.int (3 : Int32)), .unset, .unset, .unset] [(.ref b31)]) st31 ?_
        refine own_st T31 (mkF m_ 38 #[.val (.int pa), .val (.int pb), .val (.int pc), .val (.int pd), .val (.int pe), .val (.int (if (pa &&& (1 : Int32)) = (0 : Int32) then (0 : Int32) else 1)), .val (.int (3 : Int32)), .val (.ref b31), .unset, .unset] [(.int ((pc &&& (255 : Int32)).toUInt32.toUInt16.toUInt32.toInt32)), (.int (0 : Int32)), (.ref b31)]) (fun t_ k_ => ?_) ?_
        · refine XS.astore X31.here hx rfl (hb hby at_22) rfl rfl (l' := #[.val (.int pa), .val (.int pb), .val (.int pc), .val (.int pd), .val (.int pe), .val (.int (if (pa &&& (1 : Int32)) = (0 : Int32) then (0 : Int32) else 1)), .val (.int (3 : Int32)), .val (.ref b31), .unset, .unset]) rfl ?_
          show Steps p_.tables e_ below (T31.setTop (mkF m_ 24 #[.val (.int pa), .val (.int pb), .val (.int pc), .val (.int pd), .val (.int pe), .val (.int (if (pa &&& (1 : Int32)) = (0 : Int32) then (0 : Int32) else 1)), .val (.int (3 : Int32)), .val (.ref b31), .unset, .unset] [])) t_
          refine XS.iload X31.here hx rfl (hb hby at_24) rfl ?_
          show Steps p_.tables e_ below (T31.setTop (mkF m_ 26 #[.val (.int pa), .val (.int pb), .val (.int pc), .val (.int pd), .val (.int pe), .val (.int (if (pa &&& (1 : Int32)) = (0 : Int32) then (0 : Int32) else 1)), .val (.int (3 : Int32)), .val (.ref b31), .unset, .unset] [(.int (3 : Int32))])) t_
          refine XS.ifNo X31.here hx rfl (hb hby at_26) rfl ((if0 _ _).trans (tlt (by decide : (0 : Int32) < (3 : Int32))).2.2.2) ?_
          show Steps p_.tables e_ below (T31.setTop (mkF m_ 29 #[.val (.int pa), .val (.int pb), .val (.int pc), .val (.int pd), .val (.int pe), .val (.int (if (pa &&& (1 : Int32)) = (0 : Int32) then (0 : Int32) else 1)), .val (.int (3 : Int32)), .val (.ref b31), .unset, .unset] [])) t_
          refine XS.aload X31.here hx rfl (hb hby at_29) rfl rfl ?_
          show Steps p_.tables e_ below (T31.setTop (mkF m_ 31 #[.val (.int pa), .val (.int pb), .val (.int pc), .val (.int pd), .val (.int pe), .val (.int (if (pa &&& (1 : Int32)) = (0 : Int32) then (0 : Int32) else 1)), .val (.int (3 : Int32)), .val (.ref b31), .unset, .unset] [(.ref b31)])) t_
          refine XS.iconst X31.here hx rfl (hb hby at_31) ?_
          show Steps p_.tables e_ below (T31.setTop (mkF m_ 32 #[.val (.int pa), .val (.int pb), .val (.int pc), .val (.int pd), .val (.int pe), .val (.int (if (pa &&& (1 : Int32)) = (0 : Int32) then (0 : Int32) else 1)), .val (.int (3 : Int32)), .val (.ref b31), .unset, .unset] [(.int (0 : Int32)), (.ref b31)])) t_
          refine XS.iloadN X31.here hx rfl (hb hby at_32) rfl ?_
          show Steps p_.tables e_ below (T31.setTop (mkF m_ 33 #[.val (.int pa), .val (.int pb), .val (.int pc), .val (.int pd), .val (.int pe), .val (.int (if (pa &&& (1 : Int32)) = (0 : Int32) then (0 : Int32) else 1)), .val (.int (3 : Int32)), .val (.ref b31), .unset, .unset] [(.int pc), (.int (0 : Int32)), (.ref b31)])) t_
          refine XS.sipush X31.here hx rfl (hb hby at_33) ?_
          show Steps p_.tables e_ below (T31.setTop (mkF m_ 36 #[.val (.int pa), .val (.int pb), .val (.int pc), .val (.int pd), .val (.int pe), .val (.int (if (pa &&& (1 : Int32)) = (0 : Int32) then (0 : Int32) else 1)), .val (.int (3 : Int32)), .val (.ref b31), .unset, .unset] [(.int (255 : Int32)), (.int pc), (.int (0 : Int32)), (.ref b31)])) t_
          refine XS.iand X31.here hx rfl (hb hby at_36) rfl ?_
          show Steps p_.tables e_ below (T31.setTop (mkF m_ 37 #[.val (.int pa), .val (.int pb), .val (.int pc), .val (.int pd), .val (.int pe), .val (.int (if (pa &&& (1 : Int32)) = (0 : Int32) then (0 : Int32) else 1)), .val (.int (3 : Int32)), .val (.ref b31), .unset, .unset] [(.int (pc &&& (255 : Int32))), (.int (0 : Int32)), (.ref b31)])) t_
          refine XS.i2c X31.here hx rfl (hb hby at_37) rfl ?_
          show Steps p_.tables e_ below (T31.setTop (mkF m_ 38 #[.val (.int pa), .val (.int pb), .val (.int pc), .val (.int pd), .val (.int pe), .val (.int (if (pa &&& (1 : Int32)) = (0 : Int32) then (0 : Int32) else 1)), .val (.int (3 : Int32)), .val (.ref b31), .unset, .unset] [(.int ((pc &&& (255 : Int32)).toUInt32.toUInt16.toUInt32.toInt32)), (.int (0 : Int32)), (.ref b31)])) t_
          exact k_
        obtain ⟨T32, h32, X32, e32, W32, st32⟩ := own_stC X31 hx hZ e31 A_b31 ((pc &&& (255 : Int32)).toUInt32.toUInt16.toUInt32.toInt32) (own_nc _) 0 (by decide) (by decide) (j := (0 : Int32)) (x := ((pc &&& (255 : Int32)).toUInt32.toUInt16.toUInt32.toInt32)) (Ls := #[.val (.int pa), .val (.int pb), .val (.int pc), .val (.int pd), .val (.int pe), .val (.int (if (pa &&& (1 : Int32)) = (0 : Int32) then (0 : Int32) else 1)), .val (.int (3 : Int32)), .val (.ref b31), .unset, .unset]) (rest := []) (hb hby at_38)
        have N32 := Fr.snoc X32 N0 g_b31
        replace Z0 : n0 ≤ h32.size := W32.size ▸ Z0
        replace O := O.wr W32 g_b31
        replace A_b31 : own_A Z h32 b31 k31 .char 3 (fun x_ => .int (([((pc &&& (255 : Int32)).toUInt32.toUInt16.toUInt32.toInt32), (0 : Int32), (0 : Int32)] : List Int32).getD x_ 0)) := A_b31.setLI (by decide) (Nat.le_of_ble_eq_true rfl) W32
        refine own_st T32 (mkF m_ 39 #[.val (.int pa), .val (.int pb), .val (.int pc), .val (.int pd), .val (.int pe), .val (.int (if (pa &&& (1 : Int32)) = (0 : Int32) then (0 : Int32) else 1)), .val (.int (3 : Int32)), .val (.ref b31), .unset, .unset] []) st32 ?_
        refine own_st T32 (mkF m_ 54 #[.val (.int pa), .val (.int pb), .val (.int pc), .val (.int pd), .val (.int pe), .val (.int (if (pa &&& (1 : Int32)) = (0 : Int32) then (0 : Int32) else 1)), .val (.int (3 : Int32)), .val (.ref b31), .unset, .unset] [(.int ((pd &&& (255 : Int32)).toUInt32.toUInt16.toUInt32.toInt32)), (.int (1 : Int32)), (.ref b31)]) (fun t_ k_ => ?_) ?_
        · refine XS.iload X32.here hx rfl (hb hby at_39) rfl ?_
          show Steps p_.tables e_ below (T32.setTop (mkF m_ 41 #[.val (.int pa), .val (.int pb), .val (.int pc), .val (.int pd), .val (.int pe), .val (.int (if (pa &&& (1 : Int32)) = (0 : Int32) then (0 : Int32) else 1)), .val (.int (3 : Int32)), .val (.ref b31), .unset, .unset] [(.int (3 : Int32))])) t_
          refine XS.iconst X32.here hx rfl (hb hby at_41) ?_
          show Steps p_.tables e_ below (T32.setTop (mkF m_ 42 #[.val (.int pa), .val (.int pb), .val (.int pc), .val (.int pd), .val (.int pe), .val (.int (if (pa &&& (1 : Int32)) = (0 : Int32) then (0 : Int32) else 1)), .val (.int (3 : Int32)), .val (.ref b31), .unset, .unset] [(.int (1 : Int32)), (.int (3 : Int32))])) t_
          refine XS.icmpNo X32.here hx rfl (hb hby at_42) rfl (tlt (by decide : (1 : Int32) < (3 : Int32))).2.2.2 ?_
          show Steps p_.tables e_ below (T32.setTop (mkF m_ 45 #[.val (.int pa), .val (.int pb), .val (.int pc), .val (.int pd), .val (.int pe), .val (.int (if (pa &&& (1 : Int32)) = (0 : Int32) then (0 : Int32) else 1)), .val (.int (3 : Int32)), .val (.ref b31), .unset, .unset] [])) t_
          refine XS.aload X32.here hx rfl (hb hby at_45) rfl rfl ?_
          show Steps p_.tables e_ below (T32.setTop (mkF m_ 47 #[.val (.int pa), .val (.int pb), .val (.int pc), .val (.int pd), .val (.int pe), .val (.int (if (pa &&& (1 : Int32)) = (0 : Int32) then (0 : Int32) else 1)), .val (.int (3 : Int32)), .val (.ref b31), .unset, .unset] [(.ref b31)])) t_
          refine XS.iconst X32.here hx rfl (hb hby at_47) ?_
          show Steps p_.tables e_ below (T32.setTop (mkF m_ 48 #[.val (.int pa), .val (.int pb), .val (.int pc), .val (.int pd), .val (.int pe), .val (.int (if (pa &&& (1 : Int32)) = (0 : Int32) then (0 : Int32) else 1)), .val (.int (3 : Int32)), .val (.ref b31), .unset, .unset] [(.int (1 : Int32)), (.ref b31)])) t_
          refine XS.iloadN X32.here hx rfl (hb hby at_48) rfl ?_
          show Steps p_.tables e_ below (T32.setTop (mkF m_ 49 #[.val (.int pa), .val (.int pb), .val (.int pc), .val (.int pd), .val (.int pe), .val (.int (if (pa &&& (1 : Int32)) = (0 : Int32) then (0 : Int32) else 1)), .val (.int (3 : Int32)), .val (.ref b31), .unset, .unset] [(.int pd), (.int (1 : Int32)), (.ref b31)])) t_
          refine XS.sipush X32.here hx rfl (hb hby at_49) ?_
          show Steps p_.tables e_ below (T32.setTop (mkF m_ 52 #[.val (.int pa), .val (.int pb), .val (.int pc), .val (.int pd), .val (.int pe), .val (.int (if (pa &&& (1 : Int32)) = (0 : Int32) then (0 : Int32) else 1)), .val (.int (3 : Int32)), .val (.ref b31), .unset, .unset] [(.int (255 : Int32)), (.int pd), (.int (1 : Int32)), (.ref b31)])) t_
          refine XS.iand X32.here hx rfl (hb hby at_52) rfl ?_
          show Steps p_.tables e_ below (T32.setTop (mkF m_ 53 #[.val (.int pa), .val (.int pb), .val (.int pc), .val (.int pd), .val (.int pe), .val (.int (if (pa &&& (1 : Int32)) = (0 : Int32) then (0 : Int32) else 1)), .val (.int (3 : Int32)), .val (.ref b31), .unset, .unset] [(.int (pd &&& (255 : Int32))), (.int (1 : Int32)), (.ref b31)])) t_
          refine XS.i2c X32.here hx rfl (hb hby at_53) rfl ?_
          show Steps p_.tables e_ below (T32.setTop (mkF m_ 54 #[.val (.int pa), .val (.int pb), .val (.int pc), .val (.int pd), .val (.int pe), .val (.int (if (pa &&& (1 : Int32)) = (0 : Int32) then (0 : Int32) else 1)), .val (.int (3 : Int32)), .val (.ref b31), .unset, .unset] [(.int ((pd &&& (255 : Int32)).toUInt32.toUInt16.toUInt32.toInt32)), (.int (1 : Int32)), (.ref b31)])) t_
          exact k_
        obtain ⟨T33, h33, X33, e33, W33, st33⟩ := own_stC X32 hx hZ e32 A_b31 ((pd &&& (255 : Int32)).toUInt32.toUInt16.toUInt32.toInt32) (own_nc _) 1 (by decide) (by decide) (j := (1 : Int32)) (x := ((pd &&& (255 : Int32)).toUInt32.toUInt16.toUInt32.toInt32)) (Ls := #[.val (.int pa), .val (.int pb), .val (.int pc), .val (.int pd), .val (.int pe), .val (.int (if (pa &&& (1 : Int32)) = (0 : Int32) then (0 : Int32) else 1)), .val (.int (3 : Int32)), .val (.ref b31), .unset, .unset]) (rest := []) (hb hby at_54)
        have N33 := Fr.snoc X33 N32 g_b31
        replace Z0 : n0 ≤ h33.size := W33.size ▸ Z0
        replace O := O.wr W33 g_b31
        replace A_b31 : own_A Z h33 b31 k31 .char 3 (fun x_ => .int (([((pc &&& (255 : Int32)).toUInt32.toUInt16.toUInt32.toInt32), ((pd &&& (255 : Int32)).toUInt32.toUInt16.toUInt32.toInt32), (0 : Int32)] : List Int32).getD x_ 0)) := A_b31.setLI (by decide) (Nat.le_of_ble_eq_true rfl) W33
        refine own_st T33 (mkF m_ 55 #[.val (.int pa), .val (.int pb), .val (.int pc), .val (.int pd), .val (.int pe), .val (.int (if (pa &&& (1 : Int32)) = (0 : Int32) then (0 : Int32) else 1)), .val (.int (3 : Int32)), .val (.ref b31), .unset, .unset] []) st33 ?_
        refine own_st T33 (mkF m_ 71 #[.val (.int pa), .val (.int pb), .val (.int pc), .val (.int pd), .val (.int pe), .val (.int (if (pa &&& (1 : Int32)) = (0 : Int32) then (0 : Int32) else 1)), .val (.int (3 : Int32)), .val (.ref b31), .unset, .unset] [(.int ((pe &&& (255 : Int32)).toUInt32.toUInt16.toUInt32.toInt32)), (.int (2 : Int32)), (.ref b31)]) (fun t_ k_ => ?_) ?_
        · refine XS.iload X33.here hx rfl (hb hby at_55) rfl ?_
          show Steps p_.tables e_ below (T33.setTop (mkF m_ 57 #[.val (.int pa), .val (.int pb), .val (.int pc), .val (.int pd), .val (.int pe), .val (.int (if (pa &&& (1 : Int32)) = (0 : Int32) then (0 : Int32) else 1)), .val (.int (3 : Int32)), .val (.ref b31), .unset, .unset] [(.int (3 : Int32))])) t_
          refine XS.iconst X33.here hx rfl (hb hby at_57) ?_
          show Steps p_.tables e_ below (T33.setTop (mkF m_ 58 #[.val (.int pa), .val (.int pb), .val (.int pc), .val (.int pd), .val (.int pe), .val (.int (if (pa &&& (1 : Int32)) = (0 : Int32) then (0 : Int32) else 1)), .val (.int (3 : Int32)), .val (.ref b31), .unset, .unset] [(.int (2 : Int32)), (.int (3 : Int32))])) t_
          refine XS.icmpNo X33.here hx rfl (hb hby at_58) rfl (tlt (by decide : (2 : Int32) < (3 : Int32))).2.2.2 ?_
          show Steps p_.tables e_ below (T33.setTop (mkF m_ 61 #[.val (.int pa), .val (.int pb), .val (.int pc), .val (.int pd), .val (.int pe), .val (.int (if (pa &&& (1 : Int32)) = (0 : Int32) then (0 : Int32) else 1)), .val (.int (3 : Int32)), .val (.ref b31), .unset, .unset] [])) t_
          refine XS.aload X33.here hx rfl (hb hby at_61) rfl rfl ?_
          show Steps p_.tables e_ below (T33.setTop (mkF m_ 63 #[.val (.int pa), .val (.int pb), .val (.int pc), .val (.int pd), .val (.int pe), .val (.int (if (pa &&& (1 : Int32)) = (0 : Int32) then (0 : Int32) else 1)), .val (.int (3 : Int32)), .val (.ref b31), .unset, .unset] [(.ref b31)])) t_
          refine XS.iconst X33.here hx rfl (hb hby at_63) ?_
          show Steps p_.tables e_ below (T33.setTop (mkF m_ 64 #[.val (.int pa), .val (.int pb), .val (.int pc), .val (.int pd), .val (.int pe), .val (.int (if (pa &&& (1 : Int32)) = (0 : Int32) then (0 : Int32) else 1)), .val (.int (3 : Int32)), .val (.ref b31), .unset, .unset] [(.int (2 : Int32)), (.ref b31)])) t_
          refine XS.iload X33.here hx rfl (hb hby at_64) rfl ?_
          show Steps p_.tables e_ below (T33.setTop (mkF m_ 66 #[.val (.int pa), .val (.int pb), .val (.int pc), .val (.int pd), .val (.int pe), .val (.int (if (pa &&& (1 : Int32)) = (0 : Int32) then (0 : Int32) else 1)), .val (.int (3 : Int32)), .val (.ref b31), .unset, .unset] [(.int pe), (.int (2 : Int32)), (.ref b31)])) t_
          refine XS.sipush X33.here hx rfl (hb hby at_66) ?_
          show Steps p_.tables e_ below (T33.setTop (mkF m_ 69 #[.val (.int pa), .val (.int pb), .val (.int pc), .val (.int pd), .val (.int pe), .val (.int (if (pa &&& (1 : Int32)) = (0 : Int32) then (0 : Int32) else 1)), .val (.int (3 : Int32)), .val (.ref b31), .unset, .unset] [(.int (255 : Int32)), (.int pe), (.int (2 : Int32)), (.ref b31)])) t_
          refine XS.iand X33.here hx rfl (hb hby at_69) rfl ?_
          show Steps p_.tables e_ below (T33.setTop (mkF m_ 70 #[.val (.int pa), .val (.int pb), .val (.int pc), .val (.int pd), .val (.int pe), .val (.int (if (pa &&& (1 : Int32)) = (0 : Int32) then (0 : Int32) else 1)), .val (.int (3 : Int32)), .val (.ref b31), .unset, .unset] [(.int (pe &&& (255 : Int32))), (.int (2 : Int32)), (.ref b31)])) t_
          refine XS.i2c X33.here hx rfl (hb hby at_70) rfl ?_
          show Steps p_.tables e_ below (T33.setTop (mkF m_ 71 #[.val (.int pa), .val (.int pb), .val (.int pc), .val (.int pd), .val (.int pe), .val (.int (if (pa &&& (1 : Int32)) = (0 : Int32) then (0 : Int32) else 1)), .val (.int (3 : Int32)), .val (.ref b31), .unset, .unset] [(.int ((pe &&& (255 : Int32)).toUInt32.toUInt16.toUInt32.toInt32)), (.int (2 : Int32)), (.ref b31)])) t_
          exact k_
        obtain ⟨T34, h34, X34, e34, W34, st34⟩ := own_stC X33 hx hZ e33 A_b31 ((pe &&& (255 : Int32)).toUInt32.toUInt16.toUInt32.toInt32) (own_nc _) 2 (by decide) (by decide) (j := (2 : Int32)) (x := ((pe &&& (255 : Int32)).toUInt32.toUInt16.toUInt32.toInt32)) (Ls := #[.val (.int pa), .val (.int pb), .val (.int pc), .val (.int pd), .val (.int pe), .val (.int (if (pa &&& (1 : Int32)) = (0 : Int32) then (0 : Int32) else 1)), .val (.int (3 : Int32)), .val (.ref b31), .unset, .unset]) (rest := []) (hb hby at_71)
        have N34 := Fr.snoc X34 N33 g_b31
        replace Z0 : n0 ≤ h34.size := W34.size ▸ Z0
        replace O := O.wr W34 g_b31
        replace A_b31 : own_A Z h34 b31 k31 .char 3 (fun x_ => .int (([((pc &&& (255 : Int32)).toUInt32.toUInt16.toUInt32.toInt32), ((pd &&& (255 : Int32)).toUInt32.toUInt16.toUInt32.toInt32), ((pe &&& (255 : Int32)).toUInt32.toUInt16.toUInt32.toInt32)] : List Int32).getD x_ 0)) := A_b31.setLI (by decide) (Nat.le_of_ble_eq_true rfl) W34
        refine own_st T34 (mkF m_ 72 #[.val (.int pa), .val (.int pb), .val (.int pc), .val (.int pd), .val (.int pe), .val (.int (if (pa &&& (1 : Int32)) = (0 : Int32) then (0 : Int32) else 1)), .val (.int (3 : Int32)), .val (.ref b31), .unset, .unset] []) st34 ?_
        refine own_st T34 (mkF m_ 74 #[.val (.int pa), .val (.int pb), .val (.int pc), .val (.int pd), .val (.int pe), .val (.int (if (pa &&& (1 : Int32)) = (0 : Int32) then (0 : Int32) else 1)), .val (.int (3 : Int32)), .val (.ref b31), .unset, .unset] [(.int (if (pa &&& (1 : Int32)) = (0 : Int32) then (0 : Int32) else 1))]) (fun t_ k_ => ?_) ?_
        · refine XS.iload X34.here hx rfl (hb hby at_72) rfl ?_
          show Steps p_.tables e_ below (T34.setTop (mkF m_ 74 #[.val (.int pa), .val (.int pb), .val (.int pc), .val (.int pd), .val (.int pe), .val (.int (if (pa &&& (1 : Int32)) = (0 : Int32) then (0 : Int32) else 1)), .val (.int (3 : Int32)), .val (.ref b31), .unset, .unset] [(.int (if (pa &&& (1 : Int32)) = (0 : Int32) then (0 : Int32) else 1))])) t_
          exact k_
        by_cases hc74 : (pa &&& (1 : Int32)) = (0 : Int32)
        · refine own_st T34 (mkF m_ 81 #[.val (.int pa), .val (.int pb), .val (.int pc), .val (.int pd), .val (.int pe), .val (.int (if (pa &&& (1 : Int32)) = (0 : Int32) then (0 : Int32) else 1)), .val (.int (3 : Int32)), .val (.ref b31), .unset, .unset] []) (fun t_ k_ => XS.ifYes X34.here hx rfl (pc0 := 74) (pc' := 81) rfl (hb hby at_74) rfl ((if0 _ _).trans (teq (own_nt hc74)).1) (by decide) (by decide) k_) ?_
          obtain ⟨T35, h35, X35, e35, E35, A35, D35, -, st35⟩ := newO X34 hx hZ hown (hw _ (List.mem_of_getElem? (i := 1) rfl)) (hw _ (List.mem_of_getElem? (i := 2) rfl)) (hw _ (List.mem_of_getElem? (i := 3) rfl)) e34 (g := (mkF m_ 81 #[.val (.int pa), .val (.int pb), .val (.int pc), .val (.int pd), .val (.int pe), .val (.int (if (pa &&& (1 : Int32)) = (0 : Int32) then (0 : Int32) else 1)), .val (.int (3 : Int32)), .val (.ref b31), .unset, .unset] [])) rfl (hb hby at_81) (by decide) (by decide)
          obtain ⟨b35, g35⟩ : ∃ z, z = h34.size := ⟨_, rfl⟩
          rw [← g35] at A35 D35 st35
          have g_b35 : n0 ≤ b35 := g35 ▸ Z0
          have ne_b31_b35 : b31 ≠ b35 := Nat.ne_of_lt (Nat.lt_of_lt_of_le A_b31.lt (Nat.le_of_eq g35.symm))
          replace O := O.ext E35
          replace A_b31 := A_b31.ext E35
          replace Z0 : n0 ≤ h35.size := Nat.le_trans Z0 E35.1
          have F_coder_b35 : Fld Z h35 b35 "java/lang/String" "coder" "B" (.int (0 : Int32)) := D35 (Or.inr (hw _ (List.mem_of_getElem? (i := 27) rfl))) (ty := .byte) (by decide)
          have F_value_b35 : Fld Z h35 b35 "java/lang/String" "value" "[B" .null := D35 (Or.inr (hw _ (List.mem_of_getElem? (i := 29) rfl))) (ty := (.array .byte)) (by decide)
          have E_b35 := A35
          refine own_st T35 (mkF m_ 84 #[.val (.int pa), .val (.int pb), .val (.int pc), .val (.int pd), .val (.int pe), .val (.int (if (pa &&& (1 : Int32)) = (0 : Int32) then (0 : Int32) else 1)), .val (.int (3 : Int32)), .val (.ref b31), .unset, .unset] [(.ref b35)]) st35 ?_
          refine own_st T35 (mkF m_ 87 #[.val (.int pa), .val (.int pb), .val (.int pc), .val (.int pd), .val (.int pe), .val (.int (if (pa &&& (1 : Int32)) = (0 : Int32) then (0 : Int32) else 1)), .val (.int (3 : Int32)), .val (.ref b31), .unset, .unset] [(.ref b31), (.ref b35), (.ref b35)]) (fun t_ k_ => ?_) ?_
          · refine XS.dup X35.here hx rfl (hb hby at_84) rfl rfl ?_
            show Steps p_.tables e_ below (T35.setTop (mkF m_ 85 #[.val (.int pa), .val (.int pb), .val (.int pc), .val (.int pd), .val (.int pe), .val (.int (if (pa &&& (1 : Int32)) = (0 : Int32) then (0 : Int32) else 1)), .val (.int (3 : Int32)), .val (.ref b31), .unset, .unset] [(.ref b35), (.ref b35)])) t_
            refine XS.aload X35.here hx rfl (hb hby at_85) rfl rfl ?_
            show Steps p_.tables e_ below (T35.setTop (mkF m_ 87 #[.val (.int pa), .val (.int pb), .val (.int pc), .val (.int pd), .val (.int pe), .val (.int (if (pa &&& (1 : Int32)) = (0 : Int32) then (0 : Int32) else 1)), .val (.int (3 : Int32)), .val (.ref b31), .unset, .unset] [(.ref b31), (.ref b35), (.ref b35)])) t_
            exact k_
          refine own_callC X35 hx hZ rfl hown (hw _ (List.mem_of_getElem? (i := 4) rfl)) (hw _ (List.mem_of_getElem? (i := 5) rfl)) (hw _ (List.mem_of_getElem? (i := 3) rfl)) (hw _ (List.mem_of_getElem? (i := 6) rfl)) (by decide) b35 [(.ref b31)] [(.ref b35)] (rm1_3 l Z a0 hw b35 b31 k31 cs ((pc &&& (255 : Int32)).toUInt32.toUInt16.toUInt32.toInt32) ((pd &&& (255 : Int32)).toUInt32.toUInt16.toUInt32.toInt32) ((pe &&& (255 : Int32)).toUInt32.toUInt16.toUInt32.toInt32) h35 n0 Z0 O S_CS hcs E_b35 F_value_b35 F_coder_b35 g_b35 A_b31 ne_b31_b35 (own_c255 pc) (own_c255 pd) (own_c255 pe)) 1 (by decide) (by decide) e35 (by rw [hml]; rfl) (lenOf own_pd5 rfl) rfl (Nat.le_of_eq rfl) (hb hby at_87) (by decide) (by decide) ?_
          intro v36 T36 L36 X36 q36
          obtain ⟨rfl, N36q, K36⟩ := q36
          have N36 := Fr.app N34 N36q
          replace O := O.keep K36 (allS g_b35 all0)
          replace A_b31 := A_b31.keep K36 (ninS ne_b31_b35 nin0)
          -- F_coder_b35 is dropped: written by the callee
          -- F_value_b35 is dropped: written by the callee
          replace E_b35 := E_b35.keep K36
          replace Z0 : n0 ≤ T36.heap.size := Nat.le_trans Z0 K36.1
          show own_Out p_ e_ below _ _ _ _ T36 (mkF m_ 90 #[.val (.int pa), .val (.int pb), .val (.int pc), .val (.int pd), .val (.int pe), .val (.int (if (pa &&& (1 : Int32)) = (0 : Int32) then (0 : Int32) else 1)), .val (.int (3 : Int32)), .val (.ref b31), .unset, .unset] [(.ref b35)])
          refine own_st T36 (mkF m_ 92 #[.val (.int pa), .val (.int pb), .val (.int pc), .val (.int pd), .val (.int pe), .val (.int (if (pa &&& (1 : Int32)) = (0 : Int32) then (0 : Int32) else 1)), .val (.int (3 : Int32)), .val (.ref b31), .val (.ref b35), .unset] []) (fun t_ k_ => ?_) ?_
          · refine XS.astore X36.here hx rfl (hb hby at_90) rfl rfl (l' := #[.val (.int pa), .val (.int pb), .val (.int pc), .val (.int pd), .val (.int pe), .val (.int (if (pa &&& (1 : Int32)) = (0 : Int32) then (0 : Int32) else 1)), .val (.int (3 : Int32)), .val (.ref b31), .val (.ref b35), .unset]) rfl ?_
            show Steps p_.tables e_ below (T36.setTop (mkF m_ 92 #[.val (.int pa), .val (.int pb), .val (.int pc), .val (.int pd), .val (.int pe), .val (.int (if (pa &&& (1 : Int32)) = (0 : Int32) then (0 : Int32) else 1)), .val (.int (3 : Int32)), .val (.ref b31), .val (.ref b35), .unset] [])) t_
            exact k_
          obtain ⟨T37, h37, X37, e37, E37, A37, D37, -, st37⟩ := newO X36 hx hZ hown (hw _ (List.mem_of_getElem? (i := 30) rfl)) (hw _ (List.mem_of_getElem? (i := 31) rfl)) (hw _ (List.mem_of_getElem? (i := 32) rfl)) rfl (g := (mkF m_ 92 #[.val (.int pa), .val (.int pb), .val (.int pc), .val (.int pd), .val (.int pe), .val (.int (if (pa &&& (1 : Int32)) = (0 : Int32) then (0 : Int32) else 1)), .val (.int (3 : Int32)), .val (.ref b31), .val (.ref b35), .unset] [])) rfl (hb hby at_92) (by decide) (by decide)
          obtain ⟨b37, g37⟩ : ∃ z, z = T36.heap.size := ⟨_, rfl⟩
          rw [← g37] at A37 D37 st37
          have g_b37 : n0 ≤ b37 := g37 ▸ Z0
          have ne_b31_b37 : b31 ≠ b37 := Nat.ne_of_lt (Nat.lt_of_lt_of_le A_b31.lt (Nat.le_of_eq g37.symm))
          have ne_b35_b37 : b35 ≠ b37 := Nat.ne_of_lt (Nat.lt_of_lt_of_le E_b35.lt (Nat.le_of_eq g37.symm))
          replace O := O.ext E37
          replace A_b31 := A_b31.ext E37
          replace E_b35 := E_b35.ext E37
          replace Z0 : n0 ≤ h37.size := Nat.le_trans Z0 E37.1
          have F_values_b37 : Fld Z h37 b37 "com/example/mustr/mustr/rules/FieldValues" "values" "Ljava/util/Map;" .null := D37 (Or.inr (hw _ (List.mem_of_getElem? (i := 43) rfl))) (ty := (.object "java/util/Map")) (by decide)
          have F_unreadable_b37 : Fld Z h37 b37 "com/example/mustr/mustr/rules/FieldValues" "unreadable" "Ljava/lang/String;" .null := D37 (Or.inr (hw _ (List.mem_of_getElem? (i := 45) rfl))) (ty := (.object "java/lang/String")) (by decide)
          have E_b37 := A37
          refine own_st T37 (mkF m_ 95 #[.val (.int pa), .val (.int pb), .val (.int pc), .val (.int pd), .val (.int pe), .val (.int (if (pa &&& (1 : Int32)) = (0 : Int32) then (0 : Int32) else 1)), .val (.int (3 : Int32)), .val (.ref b31), .val (.ref b35), .unset] [(.ref b37)]) st37 ?_
          refine own_st T37 (mkF m_ 99 #[.val (.int pa), .val (.int pb), .val (.int pc), .val (.int pd), .val (.int pe), .val (.int (if (pa &&& (1 : Int32)) = (0 : Int32) then (0 : Int32) else 1)), .val (.int (3 : Int32)), .val (.ref b31), .val (.ref b35), .unset] [(.ref b35), .null, (.ref b37), (.ref b37)]) (fun t_ k_ => ?_) ?_
          · refine XS.dup X37.here hx rfl (hb hby at_95) rfl rfl ?_
            show Steps p_.tables e_ below (T37.setTop (mkF m_ 96 #[.val (.int pa), .val (.int pb), .val (.int pc), .val (.int pd), .val (.int pe), .val (.int (if (pa &&& (1 : Int32)) = (0 : Int32) then (0 : Int32) else 1)), .val (.int (3 : Int32)), .val (.ref b31), .val (.ref b35), .unset] [(.ref b37), (.ref b37)])) t_
            refine XS.aconstNull X37.here hx rfl (hb hby at_96) ?_
            show Steps p_.tables e_ below (T37.setTop (mkF m_ 97 #[.val (.int pa), .val (.int pb), .val (.int pc), .val (.int pd), .val (.int pe), .val (.int (if (pa &&& (1 : Int32)) = (0 : Int32) then (0 : Int32) else 1)), .val (.int (3 : Int32)), .val (.ref b31), .val (.ref b35), .unset] [.null, (.ref b37), (.ref b37)])) t_
            refine XS.aload X37.here hx rfl (hb hby at_97) rfl rfl ?_
            show Steps p_.tables e_ below (T37.setTop (mkF m_ 99 #[.val (.int pa), .val (.int pb), .val (.int pc), .val (.int pd), .val (.int pe), .val (.int (if (pa &&& (1 : Int32)) = (0 : Int32) then (0 : Int32) else 1)), .val (.int (3 : Int32)), .val (.ref b31), .val (.ref b35), .unset] [(.ref b35), .null, (.ref b37), (.ref b37)])) t_
            exact k_
          refine own_callC X37 hx hZ rfl hown (hw _ (List.mem_of_getElem? (i := 33) rfl)) (hw _ (List.mem_of_getElem? (i := 34) rfl)) (hw _ (List.mem_of_getElem? (i := 32) rfl)) (hw _ (List.mem_of_getElem? (i := 35) rfl)) (by decide) b37 [.null, (.ref b35)] [(.ref b37)] (rm7R l Z a0 hw b37 b35 h37 n0 Z0 E_b37 F_values_b37 F_unreadable_b37 g_b37) 1 (by decide) (by decide) e37 (by rw [hml]; rfl) (lenOf own_pd6 rfl) rfl (Nat.le_of_eq rfl) (hb hby at_99) (by decide) (by decide) ?_
          intro v38 T38 L38 X38 q38
          obtain ⟨rfl, N38q, K38, Eq38, Fq38_values, Fq38_unreadable⟩ := q38
          have N38 := Fr.app N36 N38q
          replace O := O.keep K38 (allS g_b37 all0)
          replace A_b31 := A_b31.keep K38 (ninS ne_b31_b37 nin0)
          replace E_b35 := E_b35.keep K38
          -- F_values_b37 is dropped: written by the callee
          -- F_unreadable_b37 is dropped: written by the callee
          replace E_b37 := E_b37.keep K38
          replace Z0 : n0 ≤ T38.heap.size := Nat.le_trans Z0 K38.1
          have F_values_b37 := Fq38_values
          have F_unreadable_b37 := Fq38_unreadable
          show own_Out p_ e_ below _ _ _ _ T38 (mkF m_ 102 #[.val (.int pa), .val (.int pb), .val (.int pc), .val (.int pd), .val (.int pe), .val (.int (if (pa &&& (1 : Int32)) = (0 : Int32) then (0 : Int32) else 1)), .val (.int (3 : Int32)), .val (.ref b31), .val (.ref b35), .unset] [(.ref b37)])
          refine own_st T38 (mkF m_ 106 #[.val (.int pa), .val (.int pb), .val (.int pc), .val (.int pd), .val (.int pe), .val (.int (if (pa &&& (1 : Int32)) = (0 : Int32) then (0 : Int32) else 1)), .val (.int (3 : Int32)), .val (.ref b31), .val (.ref b35), .val (.ref b37)] [(.ref b37)]) (fun t_ k_ => ?_) ?_
          · refine XS.astore X38.here hx rfl (hb hby at_102) rfl rfl (l' := #[.val (.int pa), .val (.int pb), .val (.int pc), .val (.int pd), .val (.int pe), .val (.int (if (pa &&& (1 : Int32)) = (0 : Int32) then (0 : Int32) else 1)), .val (.int (3 : Int32)), .val (.ref b31), .val (.ref b35), .val (.ref b37)]) rfl ?_
            show Steps p_.tables e_ below (T38.setTop (mkF m_ 104 #[.val (.int pa), .val (.int pb), .val (.int pc), .val (.int pd), .val (.int pe), .val (.int (if (pa &&& (1 : Int32)) = (0 : Int32) then (0 : Int32) else 1)), .val (.int (3 : Int32)), .val (.ref b31), .val (.ref b35), .val (.ref b37)] [])) t_
            refine XS.aload X38.here hx rfl (hb hby at_104) rfl rfl ?_
            show Steps p_.tables e_ below (T38.setTop (mkF m_ 106 #[.val (.int pa), .val (.int pb), .val (.int pc), .val (.int pd), .val (.int pe), .val (.int (if (pa &&& (1 : Int32)) = (0 : Int32) then (0 : Int32) else 1)), .val (.int (3 : Int32)), .val (.ref b31), .val (.ref b35), .val (.ref b37)] [(.ref b37)])) t_
            exact k_
          refine own_callV X38 hx hZ (y := (⟨"com/example/mustr/mustr/rules/FieldValues", "isRead", "()Z"⟩ : MethodName)) (z := (⟨"com/example/mustr/mustr/rules/FieldValues", "isRead", "()Z"⟩ : MethodName)) hown (hw _ (List.mem_of_getElem? (i := 46) rfl)) (hw _ (List.mem_of_getElem? (i := 47) rfl)) (notFace_of_selects (args := #[]) (mvT hZ (hw _ (List.mem_of_getElem? (i := 49) rfl)))) (hw _ (List.mem_of_getElem? (i := 49) rfl)) (hw _ (List.mem_of_getElem? (i := 48) rfl)) (hw _ (List.mem_of_getElem? (i := 32) rfl)) (hw _ (List.mem_of_getElem? (i := 50) rfl)) (by decide) b37 [] [] E_b37 (rm9R l Z a0 hw b37 b35 T38.heap n0 Z0 F_unreadable_b37) 0 (by decide) (by decide) rfl (by rw [hml]; rfl) (lenOf own_pd7 rfl) rfl (Nat.le_of_eq rfl) (hb hby at_106) (by decide) (by decide) ?_
          intro v39 T39 L39 X39 q39
          obtain ⟨rfl, N39q, e39⟩ := q39
          have N39 := Fr.app N38 N39q
          show own_Out p_ e_ below _ _ _ _ T39 (mkF m_ 109 #[.val (.int pa), .val (.int pb), .val (.int pc), .val (.int pd), .val (.int pe), .val (.int (if (pa &&& (1 : Int32)) = (0 : Int32) then (0 : Int32) else 1)), .val (.int (3 : Int32)), .val (.ref b31), .val (.ref b35), .val (.ref b37)] [(.int (0 : Int32))])
          refine own_st T39 (mkF m_ 119 #[.val (.int pa), .val (.int pb), .val (.int pc), .val (.int pd), .val (.int pe), .val (.int (if (pa &&& (1 : Int32)) = (0 : Int32) then (0 : Int32) else 1)), .val (.int (3 : Int32)), .val (.ref b31), .val (.ref b35), .val (.ref b37)] [(.int (1 : Int32))]) (fun t_ k_ => ?_) ?_
          · refine XS.iload X39.here hx rfl (hb hby at_109) rfl ?_
            show Steps p_.tables e_ below (T39.setTop (mkF m_ 111 #[.val (.int pa), .val (.int pb), .val (.int pc), .val (.int pd), .val (.int pe), .val (.int (if (pa &&& (1 : Int32)) = (0 : Int32) then (0 : Int32) else 1)), .val (.int (3 : Int32)), .val (.ref b31), .val (.ref b35), .val (.ref b37)] [(.int (if (pa &&& (1 : Int32)) = (0 : Int32) then (0 : Int32) else 1)), (.int (0 : Int32))])) t_
            refine XS.icmpNo X39.here hx rfl (hb hby at_111) rfl (teq (by rw [if_pos hc74] : (0 : Int32) = (if (pa &&& (1 : Int32)) = (0 : Int32) then (0 : Int32) else 1))).2 ?_
            show Steps p_.tables e_ below (T39.setTop (mkF m_ 114 #[.val (.int pa), .val (.int pb), .val (.int pc), .val (.int pd), .val (.int pe), .val (.int (if (pa &&& (1 : Int32)) = (0 : Int32) then (0 : Int32) else 1)), .val (.int (3 : Int32)), .val (.ref b31), .val (.ref b35), .val (.ref b37)] [])) t_
            refine XS.iconst X39.here hx rfl (hb hby at_114) ?_
            show Steps p_.tables e_ below (T39.setTop (mkF m_ 115 #[.val (.int pa), .val (.int pb), .val (.int pc), .val (.int pd), .val (.int pe), .val (.int (if (pa &&& (1 : Int32)) = (0 : Int32) then (0 : Int32) else 1)), .val (.int (3 : Int32)), .val (.ref b31), .val (.ref b35), .val (.ref b37)] [(.int (1 : Int32))])) t_
            refine XS.goto X39.here hx rfl (pc0 := 115) (pc' := 119) rfl (hb hby at_115) (by decide) (by decide) ?_
            show Steps p_.tables e_ below (T39.setTop (mkF m_ 119 #[.val (.int pa), .val (.int pb), .val (.int pc), .val (.int pd), .val (.int pe), .val (.int (if (pa &&& (1 : Int32)) = (0 : Int32) then (0 : Int32) else 1)), .val (.int (3 : Int32)), .val (.ref b31), .val (.ref b35), .val (.ref b37)] [(.int (1 : Int32))])) t_
            exact k_
          refine own_retN X39 hx hlk (t := .boolean) hret (by simp) (hb hby at_119) (by decide) (by decide) ?_
          exact ⟨rfl, N39⟩
        · refine own_st T34 (mkF m_ 77 #[.val (.int pa), .val (.int pb), .val (.int pc), .val (.int pd), .val (.int pe), .val (.int (if (pa &&& (1 : Int32)) = (0 : Int32) then (0 : Int32) else 1)), .val (.int (3 : Int32)), .val (.ref b31), .unset, .unset] []) (fun t_ k_ => XS.ifNo X34.here hx rfl (hb hby at_74) rfl ((if0 _ _).trans (feq (own_nf hc74)).1) k_) ?_
          refine own_st T34 (mkF m_ 92 #[.val (.int pa), .val (.int pb), .val (.int pc), .val (.int pd), .val (.int pe), .val (.int (if (pa &&& (1 : Int32)) = (0 : Int32) then (0 : Int32) else 1)), .val (.int (3 : Int32)), .val (.ref b31), .val .null, .unset] []) (fun t_ k_ => ?_) ?_
          · refine XS.aconstNull X34.here hx rfl (hb hby at_77) ?_
            show Steps p_.tables e_ below (T34.setTop (mkF m_ 78 #[.val (.int pa), .val (.int pb), .val (.int pc), .val (.int pd), .val (.int pe), .val (.int (if (pa &&& (1 : Int32)) = (0 : Int32) then (0 : Int32) else 1)), .val (.int (3 : Int32)), .val (.ref b31), .unset, .unset] [.null])) t_
            refine XS.goto X34.here hx rfl (pc0 := 78) (pc' := 90) rfl (hb hby at_78) (by decide) (by decide) ?_
            show Steps p_.tables e_ below (T34.setTop (mkF m_ 90 #[.val (.int pa), .val (.int pb), .val (.int pc), .val (.int pd), .val (.int pe), .val (.int (if (pa &&& (1 : Int32)) = (0 : Int32) then (0 : Int32) else 1)), .val (.int (3 : Int32)), .val (.ref b31), .unset, .unset] [.null])) t_
            refine XS.astore X34.here hx rfl (hb hby at_90) rfl rfl (l' := #[.val (.int pa), .val (.int pb), .val (.int pc), .val (.int pd), .val (.int pe), .val (.int (if (pa &&& (1 : Int32)) = (0 : Int32) then (0 : Int32) else 1)), .val (.int (3 : Int32)), .val (.ref b31), .val .null, .unset]) rfl ?_
            show Steps p_.tables e_ below (T34.setTop (mkF m_ 92 #[.val (.int pa), .val (.int pb), .val (.int pc), .val (.int pd), .val (.int pe), .val (.int (if (pa &&& (1 : Int32)) = (0 : Int32) then (0 : Int32) else 1)), .val (.int (3 : Int32)), .val (.ref b31), .val .null, .unset] [])) t_
            exact k_
          obtain ⟨T40, h40, X40, e40, E40, A40, D40, -, st40⟩ := newO X34 hx hZ hown (hw _ (List.mem_of_getElem? (i := 30) rfl)) (hw _ (List.mem_of_getElem? (i := 31) rfl)) (hw _ (List.mem_of_getElem? (i := 32) rfl)) e34 (g := (mkF m_ 92 #[.val (.int pa), .val (.int pb), .val (.int pc), .val (.int pd), .val (.int pe), .val (.int (if (pa &&& (1 : Int32)) = (0 : Int32) then (0 : Int32) else 1)), .val (.int (3 : Int32)), .val (.ref b31), .val .null, .unset] [])) rfl (hb hby at_92) (by decide) (by decide)
          obtain ⟨b40, g40⟩ : ∃ z, z = h34.size := ⟨_, rfl⟩
          rw [← g40] at A40 D40 st40
          have g_b40 : n0 ≤ b40 := g40 ▸ Z0
          have ne_b31_b40 : b31 ≠ b40 := Nat.ne_of_lt (Nat.lt_of_lt_of_le A_b31.lt (Nat.le_of_eq g40.symm))
          replace O := O.ext E40
          replace A_b31 := A_b31.ext E40
          replace Z0 : n0 ≤ h40.size := Nat.le_trans Z0 E40.1
          have F_values_b40 : Fld Z h40 b40 "com/example/mustr/mustr/rules/FieldValues" "values" "Ljava/util/Map;" .null := D40 (Or.inr (hw _ (List.mem_of_getElem? (i := 43) rfl))) (ty := (.object "java/util/Map")) (by decide)
          have F_unreadable_b40 : Fld Z h40 b40 "com/example/mustr/mustr/rules/FieldValues" "unreadable" "Ljava/lang/String;" .null := D40 (Or.inr (hw _ (List.mem_of_getElem? (i := 45) rfl))) (ty := (.object "java/lang/String")) (by decide)
          have E_b40 := A40
          refine own_st T40 (mkF m_ 95 #[.val (.int pa), .val (.int pb), .val (.int pc), .val (.int pd), .val (.int pe), .val (.int (if (pa &&& (1 : Int32)) = (0 : Int32) then (0 : Int32) else 1)), .val (.int (3 : Int32)), .val (.ref b31), .val .null, .unset] [(.ref b40)]) st40 ?_
          refine own_st T40 (mkF m_ 99 #[.val (.int pa), .val (.int pb), .val (.int pc), .val (.int pd), .val (.int pe), .val (.int (if (pa &&& (1 : Int32)) = (0 : Int32) then (0 : Int32) else 1)), .val (.int (3 : Int32)), .val (.ref b31), .val .null, .unset] [.null, .null, (.ref b40), (.ref b40)]) (fun t_ k_ => ?_) ?_
          · refine XS.dup X40.here hx rfl (hb hby at_95) rfl rfl ?_
            show Steps p_.tables e_ below (T40.setTop (mkF m_ 96 #[.val (.int pa), .val (.int pb), .val (.int pc), .val (.int pd), .val (.int pe), .val (.int (if (pa &&& (1 : Int32)) = (0 : Int32) then (0 : Int32) else 1)), .val (.int (3 : Int32)), .val (.ref b31), .val .null, .unset] [(.ref b40), (.ref b40)])) t_
            refine XS.aconstNull X40.here hx rfl (hb hby at_96) ?_
            show Steps p_.tables e_ below (T40.setTop (mkF m_ 97 #[.val (.int pa), .val (.int pb), .val (.int pc), .val (.int pd), .val (.int pe), .val (.int (if (pa &&& (1 : Int32)) = (0 : Int32) then (0 : Int32) else 1)), .val (.int (3 : Int32)), .val (.ref b31), .val .null, .unset] [.null, (.ref b40), (.ref b40)])) t_
            refine XS.aload X40.here hx rfl (hb hby at_97) rfl rfl ?_
            show Steps p_.tables e_ below (T40.setTop (mkF m_ 99 #[.val (.int pa), .val (.int pb), .val (.int pc), .val (.int pd), .val (.int pe), .val (.int (if (pa &&& (1 : Int32)) = (0 : Int32) then (0 : Int32) else 1)), .val (.int (3 : Int32)), .val (.ref b31), .val .null, .unset] [.null, .null, (.ref b40), (.ref b40)])) t_
            exact k_
          refine own_callC X40 hx hZ rfl hown (hw _ (List.mem_of_getElem? (i := 33) rfl)) (hw _ (List.mem_of_getElem? (i := 34) rfl)) (hw _ (List.mem_of_getElem? (i := 32) rfl)) (hw _ (List.mem_of_getElem? (i := 35) rfl)) (by decide) b40 [.null, .null] [(.ref b40)] (rm7N l Z a0 hw b40 h40 n0 Z0 E_b40 F_values_b40 F_unreadable_b40 g_b40) 1 (by decide) (by decide) e40 (by rw [hml]; rfl) (lenOf own_pd6 rfl) rfl (Nat.le_of_eq rfl) (hb hby at_99) (by decide) (by decide) ?_
          intro v41 T41 L41 X41 q41
          obtain ⟨rfl, N41q, K41, Eq41, Fq41_values, Fq41_unreadable⟩ := q41
          have N41 := Fr.app N34 N41q
          replace O := O.keep K41 (allS g_b40 all0)
          replace A_b31 := A_b31.keep K41 (ninS ne_b31_b40 nin0)
          -- F_values_b40 is dropped: written by the callee
          -- F_unreadable_b40 is dropped: written by the callee
          replace E_b40 := E_b40.keep K41
          replace Z0 : n0 ≤ T41.heap.size := Nat.le_trans Z0 K41.1
          have F_values_b40 := Fq41_values
          have F_unreadable_b40 := Fq41_unreadable
          show own_Out p_ e_ below _ _ _ _ T41 (mkF m_ 102 #[.val (.int pa), .val (.int pb), .val (.int pc), .val (.int pd), .val (.int pe), .val (.int (if (pa &&& (1 : Int32)) = (0 : Int32) then (0 : Int32) else 1)), .val (.int (3 : Int32)), .val (.ref b31), .val .null, .unset] [(.ref b40)])
          refine own_st T41 (mkF m_ 106 #[.val (.int pa), .val (.int pb), .val (.int pc), .val (.int pd), .val (.int pe), .val (.int (if (pa &&& (1 : Int32)) = (0 : Int32) then (0 : Int32) else 1)), .val (.int (3 : Int32)), .val (.ref b31), .val .null, .val (.ref b40)] [(.ref b40)]) (fun t_ k_ => ?_) ?_
          · refine XS.astore X41.here hx rfl (hb hby at_102) rfl rfl (l' := #[.val (.int pa), .val (.int pb), .val (.int pc), .val (.int pd), .val (.int pe), .val (.int (if (pa &&& (1 : Int32)) = (0 : Int32) then (0 : Int32) else 1)), .val (.int (3 : Int32)), .val (.ref b31), .val .null, .val (.ref b40)]) rfl ?_
            show Steps p_.tables e_ below (T41.setTop (mkF m_ 104 #[.val (.int pa), .val (.int pb), .val (.int pc), .val (.int pd), .val (.int pe), .val (.int (if (pa &&& (1 : Int32)) = (0 : Int32) then (0 : Int32) else 1)), .val (.int (3 : Int32)), .val (.ref b31), .val .null, .val (.ref b40)] [])) t_
            refine XS.aload X41.here hx rfl (hb hby at_104) rfl rfl ?_
            show Steps p_.tables e_ below (T41.setTop (mkF m_ 106 #[.val (.int pa), .val (.int pb), .val (.int pc), .val (.int pd), .val (.int pe), .val (.int (if (pa &&& (1 : Int32)) = (0 : Int32) then (0 : Int32) else 1)), .val (.int (3 : Int32)), .val (.ref b31), .val .null, .val (.ref b40)] [(.ref b40)])) t_
            exact k_
          refine own_callV X41 hx hZ (y := (⟨"com/example/mustr/mustr/rules/FieldValues", "isRead", "()Z"⟩ : MethodName)) (z := (⟨"com/example/mustr/mustr/rules/FieldValues", "isRead", "()Z"⟩ : MethodName)) hown (hw _ (List.mem_of_getElem? (i := 46) rfl)) (hw _ (List.mem_of_getElem? (i := 47) rfl)) (notFace_of_selects (args := #[]) (mvT hZ (hw _ (List.mem_of_getElem? (i := 49) rfl)))) (hw _ (List.mem_of_getElem? (i := 49) rfl)) (hw _ (List.mem_of_getElem? (i := 48) rfl)) (hw _ (List.mem_of_getElem? (i := 32) rfl)) (hw _ (List.mem_of_getElem? (i := 50) rfl)) (by decide) b40 [] [] E_b40 (rm9N l Z a0 hw b40 T41.heap n0 Z0 F_unreadable_b40) 0 (by decide) (by decide) rfl (by rw [hml]; rfl) (lenOf own_pd7 rfl) rfl (Nat.le_of_eq rfl) (hb hby at_106) (by decide) (by decide) ?_
          intro v42 T42 L42 X42 q42
          obtain ⟨rfl, N42q, e42⟩ := q42
          have N42 := Fr.app N41 N42q
          show own_Out p_ e_ below _ _ _ _ T42 (mkF m_ 109 #[.val (.int pa), .val (.int pb), .val (.int pc), .val (.int pd), .val (.int pe), .val (.int (if (pa &&& (1 : Int32)) = (0 : Int32) then (0 : Int32) else 1)), .val (.int (3 : Int32)), .val (.ref b31), .val .null, .val (.ref b40)] [(.int (1 : Int32))])
          refine own_st T42 (mkF m_ 119 #[.val (.int pa), .val (.int pb), .val (.int pc), .val (.int pd), .val (.int pe), .val (.int (if (pa &&& (1 : Int32)) = (0 : Int32) then (0 : Int32) else 1)), .val (.int (3 : Int32)), .val (.ref b31), .val .null, .val (.ref b40)] [(.int (1 : Int32))]) (fun t_ k_ => ?_) ?_
          · refine XS.iload X42.here hx rfl (hb hby at_109) rfl ?_
            show Steps p_.tables e_ below (T42.setTop (mkF m_ 111 #[.val (.int pa), .val (.int pb), .val (.int pc), .val (.int pd), .val (.int pe), .val (.int (if (pa &&& (1 : Int32)) = (0 : Int32) then (0 : Int32) else 1)), .val (.int (3 : Int32)), .val (.ref b31), .val .null, .val (.ref b40)] [(.int (if (pa &&& (1 : Int32)) = (0 : Int32) then (0 : Int32) else 1)), (.int (1 : Int32))])) t_
            refine XS.icmpNo X42.here hx rfl (hb hby at_111) rfl (teq (by rw [if_neg hc74] : (1 : Int32) = (if (pa &&& (1 : Int32)) = (0 : Int32) then (0 : Int32) else 1))).2 ?_
            show Steps p_.tables e_ below (T42.setTop (mkF m_ 114 #[.val (.int pa), .val (.int pb), .val (.int pc), .val (.int pd), .val (.int pe), .val (.int (if (pa &&& (1 : Int32)) = (0 : Int32) then (0 : Int32) else 1)), .val (.int (3 : Int32)), .val (.ref b31), .val .null, .val (.ref b40)] [])) t_
            refine XS.iconst X42.here hx rfl (hb hby at_114) ?_
            show Steps p_.tables e_ below (T42.setTop (mkF m_ 115 #[.val (.int pa), .val (.int pb), .val (.int pc), .val (.int pd), .val (.int pe), .val (.int (if (pa &&& (1 : Int32)) = (0 : Int32) then (0 : Int32) else 1)), .val (.int (3 : Int32)), .val (.ref b31), .val .null, .val (.ref b40)] [(.int (1 : Int32))])) t_
            refine XS.goto X42.here hx rfl (pc0 := 115) (pc' := 119) rfl (hb hby at_115) (by decide) (by decide) ?_
            show Steps p_.tables e_ below (T42.setTop (mkF m_ 119 #[.val (.int pa), .val (.int pb), .val (.int pc), .val (.int pd), .val (.int pe), .val (.int (if (pa &&& (1 : Int32)) = (0 : Int32) then (0 : Int32) else 1)), .val (.int (3 : Int32)), .val (.ref b31), .val .null, .val (.ref b40)] [(.int (1 : Int32))])) t_
            exact k_
          refine own_retN X42 hx hlk (t := .boolean) hret (by simp) (hb hby at_119) (by decide) (by decide) ?_
          exact ⟨rfl, N42⟩
set_option maxRecDepth 65536 in
set_option maxHeartbeats 40000000 in
theorem comes_1 {Post : Tables → Env → Array Value → State → Outcome → State → Prop} (hpost : ∀ tb e args s v u, (limb_1_1.after args s (.returned v) u = true ∧ limb_1_2.after args s (.returned v) u = true ∧ True) → ReturnedEndW s (.returned v) u (Jvm.fieldLocs frame_1_writes args s ++ Jvm.arrayLocs frame_1_arrays args s ++ Jvm.staticLocs frame_1_statics s) 24 1152 → Post tb e args s (.returned v) u) :
    ArmFor flags0 classFile x code maxLocals ret World_1 tables_1 room_1 Calls_1 rest_1 Pre_1 Post := by
  intro l hfl _ _ p e ha hc hk s m args below hf hA hF happ hP
  obtain ⟨hcalls, hrest, hpre⟩ := hP
  obtain ⟨-, -, -, hnamed, -, -, -, hat⟩ := (Spec.applies_iff hf).mp happ
  obtain ⟨hg, hn⟩ := and_e (Cond.before_iff.mp (show (Jvm.Cond.and given_1 narrow_1).before args s = true from hpre))
  obtain ⟨c0, r0⟩ := and_e hg
  obtain ⟨k0, r1⟩ := and_e r0
  obtain ⟨k1, r2⟩ := and_e r1
  obtain ⟨k2, r3⟩ := and_e r2
  obtain ⟨k3, r4⟩ := and_e r3
  obtain ⟨w0, w1, w2, w3, w4, rfl⟩ : ∃ w0 w1 w2 w3 w4 : Value, args = #[w0, w1, w2, w3, w4] := by
    have hs : args.size = 5 := by simpa [Cond.value, given_1] using c0
    obtain ⟨L⟩ := args
    match L, hs with
    | [w0, w1, w2, w3, w4], _ => exact ⟨w0, w1, w2, w3, w4, rfl⟩
  have hw := fun d (hd : d ∈ tables_1) => atoms_spec (ws := Jvm.Cond.code x code maxLocals ret :: tables_1) hat d (List.mem_cons_of_mem _ hd)
  have hfit : Fit s := fun {y c} hc i hi => by
    obtain ⟨ha, rfl⟩ := Array.getElem?_eq_some_iff.mp hc
    have q := List.all_eq_true.mp ((Array.all_eq_true_iff_forall_mem.mp hF) _ (Array.getElem_mem ha)) i (List.mem_range.mpr hi)
    simpa [Array.getElem?_eq_getElem hi] using q
  obtain ⟨i0, ei0⟩ := is_v k0
  obtain rfl : w0 = (.int i0) := Option.some.inj ei0
  obtain ⟨i1, ei1⟩ := is_v k1
  obtain rfl : w1 = (.int i1) := Option.some.inj ei1
  obtain ⟨i2, ei2⟩ := is_v k2
  obtain rfl : w2 = (.int i2) := Option.some.inj ei2
  obtain ⟨i3, ei3⟩ := is_v k3
  obtain rfl : w3 = (.int i3) := Option.some.inj ei3
  obtain ⟨i4, ei4⟩ := is_v r4
  obtain rfl : w4 = (.int i4) := Option.some.inj ei4
  obtain ⟨hsets, hown0⟩ := atoms_of _ (rest_1_c_eq ▸ (show rest_1_c.before _ s = true from hrest))
  obtain ⟨cs, ec⟩ := is_v (Cond.before_iff.mp (hsets _ (List.mem_of_getElem? (i := 1) rfl)))
  have Sc := Sta.start ec (Or.inl (hsets _ (List.mem_of_getElem? (i := 0) rfl)))
  have hcs := own_cs ec (Cond.before_iff.mp (hsets _ (List.mem_of_getElem? (i := 2) rfl)))
  have H : ConstHeld s "java/lang/String" 7 := own_heldE (hcalls.1 ("java/lang/String", 7) (by decide)) (hw _ (List.mem_of_getElem? (i := 51) rfl)) (hsets _ (List.mem_of_getElem? (i := 2) rfl))
  obtain ⟨n, o, h1, h2, h3, _, L, rfl, ⟨rfl, N⟩, hq⟩ := rm0 l s _ hw i0 i1 i2 i3 i4 cs s.heap s.heap.size (Nat.le_refl _) (Old.start s) Sc hcs H tables_1 p e ha hc hk s m _ below hf ((Spec.applies_iff_loose hf).mp happ).1 ⟨rfl, State.WarmedH.refl s, rfl⟩ trivial
  refine ⟨n, _, h1, h2, h3, hpost _ _ _ _ _ _ ⟨Cond.after_iff.mpr rfl, Cond.after_iff.mpr (eq_i res_at (Term.int_eval (1)) rfl), trivial⟩ ⟨hq.1, hq.2.1, hq.2.2.1, (hq.2.2.2.sift fun y hy => Or.inr (N y hy)).mono (by decide) (by decide)⟩⟩
theorem main_1_1 : Claimed_1_1 := comes_1 fun _ _ _ _ _ _ h hF => ⟨h.1, hF⟩
theorem main_1_2 : Claimed_1_2 := comes_1 fun _ _ _ _ _ _ h hF => ⟨h.2.1, hF⟩
end Jvm.Pilot.@@N@@
namespace Jvm.Pilot.@@N@@
open Jvm Jvm.ClassFile Sem Op Lib Jvm.Free Jvm.Stand Jvm.Pilot.@@N@@.Jvm.D
/-! MADE BY PROGRAM (witnessworld.py) out of the Statement's table words and the real class files: 21 classes; the members and pool entries that the words name. The judged class is class 1, her method 1. -/
namespace start1
open Jvm.ClassFile
def u (s : String) : CpInfo := .utf8 (stringToUtf16 s)
/-- a pool by its gaps: so many unusable entries, then the entry; so many at the end -/
def gap : Nat → List CpInfo → List CpInfo
  | 0, r => r
  | n + 1, r => .unusable :: gap n r
def poolList (es : List (Nat × CpInfo)) (last : Nat) : List CpInfo := es.foldr (fun e r => gap e.1 (e.2 :: r)) (gap last [])
def pool (es : List (Nat × CpInfo)) (last : Nat) : Array CpInfo := ⟨poolList es last⟩
def fileOf (pool : Array CpInfo) (this : Nat) (attrs : Array Attribute := #[]) (ms : Array MethodInfo := #[]) (fl : Nat := 33) (sup : Nat := 0) (ifs : Array Nat := #[]) (fds : Array FieldInfo := #[]) : ClassFile where
  minorVersion := 0
  majorVersion := 65
  constantPool := pool
  accessFlags := fl
  thisClass := this
  superClass := sup
  interfaces := ifs
  fields := fds
  methods := ms
  attributes := attrs
def plain (name : String) (sup : Option ClassId) : Class where
  name := name
  kind := .ordinary
  loader := none
  accessFlags := 33
  super := sup
  interfaces := #[]
  cf := none
  fields := #[]
  methods := #[]
  instanceTypes := #[]
  staticTypes := #[]
  resolved := #[]
  callSites := []
  init := .initialized
  statics := none
  mirror := none

def pool0 : Array CpInfo := pool [(5, u "<init>"), (0, u "()V"), (1, .class_ 10), (1, u "java/lang/Object")] 113

def k0c0 : Code := { maxStack := 0, maxLocals := 1, code := object_method_1_code, exceptionTable := #[], attributes := #[] }
def k0m0 : Method := { name := "<init>", desc := "()V", sig := { parameters := [], returnType := none }, accessFlags := 1, code := some k0c0 }
/-- java/lang/Object -/
def k0 : Class := { plain "java/lang/Object" none with
  accessFlags := 33
  interfaces := #[]
  cf := some (fileOf pool0 8 #[] #[{ accessFlags := 1, nameIndex := 5, descriptorIndex := 6, attributes := #[] }] 33 0 #[] #[])
  fields := #[]
  methods := #[k0m0]
  instanceTypes := #[]
  staticTypes := #[]
  resolved := Array.replicate 124 none
  statics := none }

def pool1 : Array CpInfo := pool [(2, .class_ 4), (1, u "java/lang/Object"), (0, u "<init>"), (0, u "()V"), (0, .class_ 8), (0, u "java/lang/String"), (0, .methodref 7 10), (0, .nameAndType 5 11), (0, u "([C)V"), (0, .class_ 13), (0, u "com/example/mustr/mustr/rules/FieldValues"), (0, .methodref 12 15), (0, .nameAndType 5 16), (0, u "(Ljava/util/Map;Ljava/lang/String;)V"), (0, .methodref 12 18), (0, .nameAndType 19 20), (0, u "isRead"), (0, u "()Z"), (0, .class_ 22), (0, u "com/example/mustr/mustr/rules/FieldValuesIsReadPinLaw"), (2, u "law"), (0, u "(IIIII)Z")] 5

def k1m0 : Method := { name := "<init>", desc := "()V", sig := { parameters := [], returnType := none }, accessFlags := 2, code := none }
def k1c1 : Code := { maxStack := 4, maxLocals := 10, code := code, exceptionTable := #[], attributes := #[] }
def k1m1 : Method := { name := "law", desc := "(IIIII)Z", sig := { parameters := [.int, .int, .int, .int, .int], returnType := some .boolean }, accessFlags := 9, code := some k1c1 }
/-- com/example/mustr/mustr/rules/FieldValuesIsReadPinLaw -/
def k1 : Class := { plain "com/example/mustr/mustr/rules/FieldValuesIsReadPinLaw" (some 0) with
  accessFlags := 49
  interfaces := #[]
  cf := some (fileOf pool1 21 #[] #[{ accessFlags := 2, nameIndex := 5, descriptorIndex := 6, attributes := #[] }, { accessFlags := 9, nameIndex := 25, descriptorIndex := 26, attributes := #[] }] 49 2 #[] #[])
  fields := #[]
  methods := #[k1m0, k1m1]
  instanceTypes := #[]
  staticTypes := #[]
  resolved := Array.replicate 32 none
  statics := none }

def pool2 : Array CpInfo := pool [(1, .class_ 2), (0, u "java/io/Serializable"), (0, .class_ 4), (0, u "java/lang/Object")] 2

/-- java/io/Serializable -/
def k2 : Class := { plain "java/io/Serializable" (some 0) with
  accessFlags := 1537
  interfaces := #[]
  cf := some (fileOf pool2 1 #[] #[] 1537 3 #[] #[])
  fields := #[]
  methods := #[]
  instanceTypes := #[]
  staticTypes := #[]
  resolved := Array.replicate 7 none
  statics := none }

def pool3 : Array CpInfo := pool [(1, .class_ 2), (0, u "java/lang/Comparable"), (0, .class_ 4), (0, u "java/lang/Object")] 7

/-- java/lang/Comparable -/
def k3 : Class := { plain "java/lang/Comparable" (some 0) with
  accessFlags := 1537
  interfaces := #[]
  cf := some (fileOf pool3 1 #[] #[] 1537 3 #[] #[])
  fields := #[]
  methods := #[]
  instanceTypes := #[]
  staticTypes := #[]
  resolved := Array.replicate 12 none
  statics := none }

def pool4 : Array CpInfo := pool [(2, .class_ 4), (1, u "java/lang/CharSequence"), (42, .class_ 48), (0, u "java/lang/CharSequence$1CodePointIterator"), (10, .class_ 60), (0, u "java/lang/CharSequence$1CharIterator"), (5, .class_ 67), (0, u "java/lang/Object")] 63

/-- java/lang/CharSequence -/
def k4 : Class := { plain "java/lang/CharSequence" (some 0) with
  accessFlags := 1537
  interfaces := #[]
  cf := some (fileOf pool4 2 #[.nestMembers #[47, 59]] #[] 1537 66 #[] #[])
  fields := #[]
  methods := #[]
  instanceTypes := #[]
  staticTypes := #[]
  resolved := Array.replicate 131 none
  statics := none }

def pool5 : Array CpInfo := pool [(1, .class_ 2), (0, u "java/lang/constant/Constable"), (0, .class_ 4), (0, u "java/lang/Object")] 6

/-- java/lang/constant/Constable -/
def k5 : Class := { plain "java/lang/constant/Constable" (some 0) with
  accessFlags := 1537
  interfaces := #[]
  cf := some (fileOf pool5 1 #[] #[] 1537 3 #[] #[])
  fields := #[]
  methods := #[]
  instanceTypes := #[]
  staticTypes := #[]
  resolved := Array.replicate 11 none
  statics := none }

def pool6 : Array CpInfo := pool [(1, .class_ 2), (0, u "java/lang/constant/ConstantDesc"), (0, .class_ 4), (0, u "java/lang/Object")] 32

/-- java/lang/constant/ConstantDesc -/
def k6 : Class := { plain "java/lang/constant/ConstantDesc" (some 0) with
  accessFlags := 1537
  interfaces := #[]
  cf := some (fileOf pool6 1 #[] #[] 1537 3 #[] #[])
  fields := #[]
  methods := #[]
  instanceTypes := #[]
  staticTypes := #[]
  resolved := Array.replicate 37 none
  statics := none }

def pool7 : Array CpInfo := pool [(1, .methodref 2 3), (0, .class_ 4), (0, .nameAndType 5 6), (0, u "java/lang/Object"), (0, u "<init>"), (0, u "()V"), (0, .string 8), (0, u ""), (0, .fieldref 10 11), (0, .class_ 12), (0, .nameAndType 13 14), (0, u "java/lang/String"), (0, u "value"), (0, u "[B"), (0, .fieldref 10 16), (0, .nameAndType 17 18), (0, u "coder"), (0, u "B"), (2, u "hash"), (0, u "I"), (2, u "hashIsZero"), (0, u "Z"), (0, .methodref 10 28), (0, .nameAndType 5 29), (0, u "([CIILjava/lang/Void;)V"), (8, .fieldref 10 39), (0, .nameAndType 40 26), (0, u "COMPACT_STRINGS"), (1, .class_ 44), (1, u "java/lang/StringUTF16"), (0, u "compress"), (1, .methodref 42 48), (0, .nameAndType 49 50), (0, u "coderFromArrayLen"), (0, u "([BI)B"), (126, .methodref 42 178), (0, .nameAndType 45 179), (0, u "([CII)[B"), (395, .class_ 576), (0, u "java/lang/CharSequence"), (22, u "CASE_INSENSITIVE_ORDER"), (0, u "Ljava/util/Comparator;"), (409, u "([C)V"), (90, u "serialPersistentFields"), (0, u "[Ljava/io/ObjectStreamField;"), (0, .class_ 1104), (0, u "java/lang/String$CaseInsensitiveComparator"), (1, .class_ 1107), (0, u "java/io/Serializable"), (0, .class_ 1109), (0, u "java/lang/Comparable"), (0, .class_ 1111), (0, u "java/lang/constant/Constable"), (0, .class_ 1113), (0, u "java/lang/constant/ConstantDesc"), (2, u "serialVersionUID"), (0, u "J"), (3, u "REPL"), (0, u "C"), (2, u "LATIN1"), (1, u "UTF16")] 323

def k7m0 : Method := { name := "<init>", desc := "()V", sig := { parameters := [], returnType := none }, accessFlags := 1, code := none }
def k7c1 : Code := { maxStack := 5, maxLocals := 2, code := jdk_42_method_3_code, exceptionTable := #[], attributes := #[] }
def k7m1 : Method := { name := "<init>", desc := "([C)V", sig := { parameters := [(.array .char)], returnType := none }, accessFlags := 1, code := some k7c1 }
def k7c2 : Code := { maxStack := 4, maxLocals := 6, code := jdk_42_method_149_code, exceptionTable := #[], attributes := #[] }
def k7m2 : Method := { name := "<init>", desc := "([CIILjava/lang/Void;)V", sig := { parameters := [(.array .char), .int, .int, (.object "java/lang/Void")], returnType := none }, accessFlags := 2, code := some k7c2 }
/-- java/lang/String -/
def k7 : Class := { plain "java/lang/String" (some 0) with
  accessFlags := 49
  interfaces := #[2, 3, 4, 5, 6]
  cf := some (fileOf pool7 10 #[.nestMembers #[1103]] #[{ accessFlags := 1, nameIndex := 5, descriptorIndex := 6, attributes := #[] }, { accessFlags := 1, nameIndex := 5, descriptorIndex := 1010, attributes := #[] }, { accessFlags := 2, nameIndex := 5, descriptorIndex := 29, attributes := #[] }] 49 2 #[1106, 1108, 575, 1110, 1112] #[{ accessFlags := 18, nameIndex := 13, descriptorIndex := 14, attributes := #[] }, { accessFlags := 18, nameIndex := 17, descriptorIndex := 18, attributes := #[] }, { accessFlags := 2, nameIndex := 21, descriptorIndex := 22, attributes := #[] }, { accessFlags := 2, nameIndex := 25, descriptorIndex := 26, attributes := #[] }, { accessFlags := 26, nameIndex := 1116, descriptorIndex := 1117, attributes := #[] }, { accessFlags := 24, nameIndex := 40, descriptorIndex := 26, attributes := #[] }, { accessFlags := 26, nameIndex := 1101, descriptorIndex := 1102, attributes := #[] }, { accessFlags := 26, nameIndex := 1121, descriptorIndex := 1122, attributes := #[] }, { accessFlags := 25, nameIndex := 599, descriptorIndex := 600, attributes := #[] }, { accessFlags := 24, nameIndex := 1125, descriptorIndex := 18, attributes := #[] }, { accessFlags := 24, nameIndex := 1127, descriptorIndex := 18, attributes := #[] }])
  fields := #[{ name := "value", type := (.array .byte), accessFlags := 18, slot := 0, constantValue := 0 }, { name := "coder", type := .byte, accessFlags := 18, slot := 1, constantValue := 0 }, { name := "hash", type := .int, accessFlags := 2, slot := 2, constantValue := 0 }, { name := "hashIsZero", type := .boolean, accessFlags := 2, slot := 3, constantValue := 0 }, { name := "serialVersionUID", type := .long, accessFlags := 26, slot := 0, constantValue := 0 }, { name := "COMPACT_STRINGS", type := .boolean, accessFlags := 24, slot := 1, constantValue := 0 }, { name := "serialPersistentFields", type := (.array (.object "java/io/ObjectStreamField")), accessFlags := 26, slot := 2, constantValue := 0 }, { name := "REPL", type := .char, accessFlags := 26, slot := 3, constantValue := 0 }, { name := "CASE_INSENSITIVE_ORDER", type := (.object "java/util/Comparator"), accessFlags := 25, slot := 4, constantValue := 0 }, { name := "LATIN1", type := .byte, accessFlags := 24, slot := 5, constantValue := 0 }, { name := "UTF16", type := .byte, accessFlags := 24, slot := 6, constantValue := 0 }]
  methods := #[k7m0, k7m1, k7m2]
  instanceTypes := #[(.array .byte), .byte, .int, .boolean]
  staticTypes := #[.long, .boolean, (.array (.object "java/io/ObjectStreamField")), .char, (.object "java/util/Comparator"), .byte, .byte]
  resolved := Array.replicate 1451 none
  statics := some 0 }

def pool8 : Array CpInfo := pool [(6, .class_ 8), (1, u "java/lang/Object"), (0, u "<init>"), (0, u "()V"), (1, .class_ 14), (1, u "java/lang/StringUTF16"), (31, u "$assertionsDisabled"), (0, u "Z"), (13, u "HI_BYTE_SHIFT"), (0, u "I"), (2, u "LO_BYTE_SHIFT"), (49, .methodref 12 116), (0, .nameAndType 117 118), (0, u "compress"), (0, u "([CI[BII)I"), (3, u "([CII)[B"), (138, u "coderFromArrayLen"), (0, u "([BI)B"), (106, .class_ 371), (1, u "java/lang/StringUTF16$LinesSpliterator"), (58, u "MAX_LENGTH"), (196, .class_ 628), (0, u "java/lang/StringUTF16$CodePointsSpliterator"), (0, .class_ 630), (0, u "java/lang/StringUTF16$CharsSpliterator")] 4

def k8m0 : Method := { name := "<init>", desc := "()V", sig := { parameters := [], returnType := none }, accessFlags := 0, code := none }
def k8c1 : Code := { maxStack := 2, maxLocals := 2, code := jdk_52_method_15_code, exceptionTable := #[], attributes := #[] }
def k8m1 : Method := { name := "coderFromArrayLen", desc := "([BI)B", sig := { parameters := [(.array .byte), .int], returnType := some .byte }, accessFlags := 8, code := some k8c1 }
def k8c2 : Code := { maxStack := 5, maxLocals := 6, code := jdk_52_method_16_code, exceptionTable := #[], attributes := #[] }
def k8m2 : Method := { name := "compress", desc := "([CII)[B", sig := { parameters := [(.array .char), .int, .int], returnType := some (.array .byte) }, accessFlags := 9, code := some k8c2 }
def k8c3 : Code := { maxStack := 3, maxLocals := 7, code := jdk_52_method_21_code, exceptionTable := #[], attributes := #[] }
def k8m3 : Method := { name := "compress", desc := "([CI[BII)I", sig := { parameters := [(.array .char), .int, (.array .byte), .int, .int], returnType := some .int }, accessFlags := 9, code := some k8c3 }
/-- java/lang/StringUTF16 -/
def k8 : Class := { plain "java/lang/StringUTF16" (some 0) with
  accessFlags := 48
  interfaces := #[]
  cf := some (fileOf pool8 12 #[.nestMembers #[627, 629, 369]] #[{ accessFlags := 0, nameIndex := 9, descriptorIndex := 10, attributes := #[] }, { accessFlags := 8, nameIndex := 261, descriptorIndex := 262, attributes := #[] }, { accessFlags := 9, nameIndex := 117, descriptorIndex := 122, attributes := #[] }, { accessFlags := 9, nameIndex := 117, descriptorIndex := 118, attributes := #[] }] 48 6 #[] #[{ accessFlags := 26, nameIndex := 61, descriptorIndex := 62, attributes := #[] }, { accessFlags := 26, nameIndex := 65, descriptorIndex := 62, attributes := #[] }, { accessFlags := 24, nameIndex := 430, descriptorIndex := 62, attributes := #[] }, { accessFlags := 4120, nameIndex := 46, descriptorIndex := 47, attributes := #[] }])
  fields := #[{ name := "HI_BYTE_SHIFT", type := .int, accessFlags := 26, slot := 0, constantValue := 0 }, { name := "LO_BYTE_SHIFT", type := .int, accessFlags := 26, slot := 1, constantValue := 0 }, { name := "MAX_LENGTH", type := .int, accessFlags := 24, slot := 2, constantValue := 0 }, { name := "$assertionsDisabled", type := .boolean, accessFlags := 4120, slot := 3, constantValue := 0 }]
  methods := #[k8m0, k8m1, k8m2, k8m3]
  instanceTypes := #[]
  staticTypes := #[.int, .int, .int, .boolean]
  resolved := Array.replicate 635 none
  statics := none }

def pool9 : Array CpInfo := pool [(1, .methodref 2 3), (0, .class_ 4), (0, .nameAndType 5 6), (0, u "java/lang/Object"), (0, u "<init>"), (0, u "()V"), (0, .class_ 8), (0, u "java/lang/Record")] 13

def k9c0 : Code := { maxStack := 1, maxLocals := 1, code := jdk_30_method_1_code, exceptionTable := #[], attributes := #[] }
def k9m0 : Method := { name := "<init>", desc := "()V", sig := { parameters := [], returnType := none }, accessFlags := 4, code := some k9c0 }
/-- java/lang/Record -/
def k9 : Class := { plain "java/lang/Record" (some 0) with
  accessFlags := 1057
  interfaces := #[]
  cf := some (fileOf pool9 7 #[] #[{ accessFlags := 4, nameIndex := 5, descriptorIndex := 6, attributes := #[] }] 1057 2 #[] #[])
  fields := #[]
  methods := #[k9m0]
  instanceTypes := #[]
  staticTypes := #[]
  resolved := Array.replicate 22 none
  statics := none }

def pool10 : Array CpInfo := pool [(1, .methodref 2 3), (0, .class_ 4), (0, .nameAndType 5 6), (0, u "java/lang/Record"), (0, u "<init>"), (0, u "()V"), (0, .fieldref 8 9), (0, .class_ 10), (0, .nameAndType 11 12), (0, u "com/example/mustr/mustr/rules/FieldValues"), (0, u "values"), (0, u "Ljava/util/Map;"), (0, .fieldref 8 14), (0, .nameAndType 15 16), (0, u "unreadable"), (0, u "Ljava/lang/String;"), (21, u "()Z"), (16, u "isRead"), (29, u "(Ljava/util/Map;Ljava/lang/String;)V")] 83

def k10c0 : Code := { maxStack := 2, maxLocals := 3, code := prog_69_method_1_code, exceptionTable := #[], attributes := #[] }
def k10m0 : Method := { name := "<init>", desc := "(Ljava/util/Map;Ljava/lang/String;)V", sig := { parameters := [(.object "java/util/Map"), (.object "java/lang/String")], returnType := none }, accessFlags := 0, code := some k10c0 }
def k10c1 : Code := { maxStack := 1, maxLocals := 1, code := prog_69_method_4_code, exceptionTable := #[], attributes := #[] }
def k10m1 : Method := { name := "isRead", desc := "()Z", sig := { parameters := [], returnType := some .boolean }, accessFlags := 0, code := some k10c1 }
/-- com/example/mustr/mustr/rules/FieldValues -/
def k10 : Class := { plain "com/example/mustr/mustr/rules/FieldValues" (some 9) with
  accessFlags := 48
  interfaces := #[]
  cf := some (fileOf pool10 8 #[] #[{ accessFlags := 0, nameIndex := 5, descriptorIndex := 85, attributes := #[] }, { accessFlags := 0, nameIndex := 55, descriptorIndex := 38, attributes := #[] }] 48 2 #[] #[{ accessFlags := 18, nameIndex := 11, descriptorIndex := 12, attributes := #[] }, { accessFlags := 18, nameIndex := 15, descriptorIndex := 16, attributes := #[] }])
  fields := #[{ name := "values", type := (.object "java/util/Map"), accessFlags := 18, slot := 0, constantValue := 0 }, { name := "unreadable", type := (.object "java/lang/String"), accessFlags := 18, slot := 1, constantValue := 0 }]
  methods := #[k10m0, k10m1]
  instanceTypes := #[(.object "java/util/Map"), (.object "java/lang/String")]
  staticTypes := #[]
  resolved := Array.replicate 169 none
  statics := none }

def pool11 : Array CpInfo := pool [(4, .class_ 6), (1, u "java/lang/Object"), (0, u "<init>"), (0, u "()V"), (5, .class_ 16), (1, u "java/lang/StringLatin1"), (104, u "$assertionsDisabled"), (0, u "Z"), (98, .class_ 223), (1, u "java/lang/StringLatin1$LinesSpliterator"), (166, .class_ 391), (0, u "java/lang/StringLatin1$CharsSpliterator")] 3

def k11m0 : Method := { name := "<init>", desc := "()V", sig := { parameters := [], returnType := none }, accessFlags := 0, code := none }
/-- java/lang/StringLatin1 -/
def k11 : Class := { plain "java/lang/StringLatin1" (some 0) with
  accessFlags := 48
  interfaces := #[]
  cf := some (fileOf pool11 14 #[.nestMembers #[390, 221]] #[{ accessFlags := 0, nameIndex := 7, descriptorIndex := 8, attributes := #[] }] 48 4 #[] #[{ accessFlags := 4120, nameIndex := 121, descriptorIndex := 122, attributes := #[] }])
  fields := #[{ name := "$assertionsDisabled", type := .boolean, accessFlags := 4120, slot := 0, constantValue := 0 }]
  methods := #[k11m0]
  instanceTypes := #[]
  staticTypes := #[.boolean]
  resolved := Array.replicate 395 none
  statics := none }

def pool12 : Array CpInfo := pool [(2, .class_ 4), (1, u "java/lang/Object"), (0, u "<init>"), (0, u "()V"), (17, .class_ 26), (1, u "jdk/internal/util/Preconditions"), (28, .class_ 56), (0, u "jdk/internal/util/Preconditions$4"), (57, .class_ 115), (0, u "jdk/internal/util/Preconditions$1"), (7, u "SIOOBE_FORMATTER"), (0, u "Ljava/util/function/BiFunction;"), (0, .class_ 126), (0, u "jdk/internal/util/Preconditions$2"), (3, u "AIOOBE_FORMATTER"), (0, .class_ 132), (0, u "jdk/internal/util/Preconditions$3"), (3, u "IOOBE_FORMATTER")] 57

def k12m0 : Method := { name := "<init>", desc := "()V", sig := { parameters := [], returnType := none }, accessFlags := 1, code := none }
/-- jdk/internal/util/Preconditions -/
def k12 : Class := { plain "jdk/internal/util/Preconditions" (some 0) with
  accessFlags := 33
  interfaces := #[]
  cf := some (fileOf pool12 24 #[.nestMembers #[55, 131, 125, 114]] #[{ accessFlags := 1, nameIndex := 5, descriptorIndex := 6, attributes := #[] }] 33 2 #[] #[{ accessFlags := 25, nameIndex := 123, descriptorIndex := 124, attributes := #[] }, { accessFlags := 25, nameIndex := 130, descriptorIndex := 124, attributes := #[] }, { accessFlags := 25, nameIndex := 136, descriptorIndex := 124, attributes := #[] }])
  fields := #[{ name := "SIOOBE_FORMATTER", type := (.object "java/util/function/BiFunction"), accessFlags := 25, slot := 0, constantValue := 0 }, { name := "AIOOBE_FORMATTER", type := (.object "java/util/function/BiFunction"), accessFlags := 25, slot := 1, constantValue := 0 }, { name := "IOOBE_FORMATTER", type := (.object "java/util/function/BiFunction"), accessFlags := 25, slot := 2, constantValue := 0 }]
  methods := #[k12m0]
  instanceTypes := #[]
  staticTypes := #[(.object "java/util/function/BiFunction"), (.object "java/util/function/BiFunction"), (.object "java/util/function/BiFunction")]
  resolved := Array.replicate 194 none
  statics := some 1 }

def pool13 : Array CpInfo := pool [(9, u "<init>"), (6, .class_ 18), (1, u "java/lang/Object"), (0, u "()V"), (1, .class_ 23), (1, u "jdk/internal/util/ArraysSupport"), (0, u "LOG2_ARRAY_LONG_INDEX_SCALE"), (0, u "I"), (2, u "U"), (0, u "Ljdk/internal/misc/Unsafe;"), (8, u "BIG_ENDIAN"), (0, u "Z"), (8, u "LOG2_BYTE_BIT_SIZE"), (4, u "LOG2_ARRAY_INT_INDEX_SCALE"), (54, u "JLA"), (0, u "Ljdk/internal/access/JavaLangAccess;"), (11, u "LOG2_ARRAY_BOOLEAN_INDEX_SCALE"), (9, u "LOG2_ARRAY_BYTE_INDEX_SCALE"), (5, u "LOG2_ARRAY_CHAR_INDEX_SCALE"), (5, u "LOG2_ARRAY_SHORT_INDEX_SCALE"), (18, u "LOG2_ARRAY_FLOAT_INDEX_SCALE"), (24, u "LOG2_ARRAY_DOUBLE_INDEX_SCALE"), (89, u "T_BOOLEAN"), (2, u "T_CHAR"), (1, u "T_FLOAT"), (1, u "T_DOUBLE"), (1, u "T_BYTE"), (1, u "T_SHORT"), (1, u "T_INT"), (1, u "T_LONG"), (1, u "SOFT_MAX_ARRAY_LENGTH")] 83

def k13m0 : Method := { name := "<init>", desc := "()V", sig := { parameters := [], returnType := none }, accessFlags := 2, code := none }
/-- jdk/internal/util/ArraysSupport -/
def k13 : Class := { plain "jdk/internal/util/ArraysSupport" (some 0) with
  accessFlags := 33
  interfaces := #[]
  cf := some (fileOf pool13 21 #[] #[{ accessFlags := 2, nameIndex := 9, descriptorIndex := 19, attributes := #[] }] 33 16 #[] #[{ accessFlags := 24, nameIndex := 28, descriptorIndex := 29, attributes := #[] }, { accessFlags := 26, nameIndex := 38, descriptorIndex := 39, attributes := #[] }, { accessFlags := 25, nameIndex := 121, descriptorIndex := 25, attributes := #[] }, { accessFlags := 25, nameIndex := 131, descriptorIndex := 25, attributes := #[] }, { accessFlags := 25, nameIndex := 137, descriptorIndex := 25, attributes := #[] }, { accessFlags := 25, nameIndex := 143, descriptorIndex := 25, attributes := #[] }, { accessFlags := 25, nameIndex := 53, descriptorIndex := 25, attributes := #[] }, { accessFlags := 25, nameIndex := 24, descriptorIndex := 25, attributes := #[] }, { accessFlags := 25, nameIndex := 162, descriptorIndex := 25, attributes := #[] }, { accessFlags := 25, nameIndex := 187, descriptorIndex := 25, attributes := #[] }, { accessFlags := 26, nameIndex := 48, descriptorIndex := 25, attributes := #[] }, { accessFlags := 25, nameIndex := 277, descriptorIndex := 25, attributes := #[] }, { accessFlags := 25, nameIndex := 280, descriptorIndex := 25, attributes := #[] }, { accessFlags := 25, nameIndex := 282, descriptorIndex := 25, attributes := #[] }, { accessFlags := 25, nameIndex := 284, descriptorIndex := 25, attributes := #[] }, { accessFlags := 25, nameIndex := 286, descriptorIndex := 25, attributes := #[] }, { accessFlags := 25, nameIndex := 288, descriptorIndex := 25, attributes := #[] }, { accessFlags := 25, nameIndex := 290, descriptorIndex := 25, attributes := #[] }, { accessFlags := 25, nameIndex := 292, descriptorIndex := 25, attributes := #[] }, { accessFlags := 26, nameIndex := 108, descriptorIndex := 109, attributes := #[] }, { accessFlags := 25, nameIndex := 294, descriptorIndex := 25, attributes := #[] }])
  fields := #[{ name := "U", type := (.object "jdk/internal/misc/Unsafe"), accessFlags := 24, slot := 0, constantValue := 0 }, { name := "BIG_ENDIAN", type := .boolean, accessFlags := 26, slot := 1, constantValue := 0 }, { name := "LOG2_ARRAY_BOOLEAN_INDEX_SCALE", type := .int, accessFlags := 25, slot := 2, constantValue := 0 }, { name := "LOG2_ARRAY_BYTE_INDEX_SCALE", type := .int, accessFlags := 25, slot := 3, constantValue := 0 }, { name := "LOG2_ARRAY_CHAR_INDEX_SCALE", type := .int, accessFlags := 25, slot := 4, constantValue := 0 }, { name := "LOG2_ARRAY_SHORT_INDEX_SCALE", type := .int, accessFlags := 25, slot := 5, constantValue := 0 }, { name := "LOG2_ARRAY_INT_INDEX_SCALE", type := .int, accessFlags := 25, slot := 6, constantValue := 0 }, { name := "LOG2_ARRAY_LONG_INDEX_SCALE", type := .int, accessFlags := 25, slot := 7, constantValue := 0 }, { name := "LOG2_ARRAY_FLOAT_INDEX_SCALE", type := .int, accessFlags := 25, slot := 8, constantValue := 0 }, { name := "LOG2_ARRAY_DOUBLE_INDEX_SCALE", type := .int, accessFlags := 25, slot := 9, constantValue := 0 }, { name := "LOG2_BYTE_BIT_SIZE", type := .int, accessFlags := 26, slot := 10, constantValue := 0 }, { name := "T_BOOLEAN", type := .int, accessFlags := 25, slot := 11, constantValue := 0 }, { name := "T_CHAR", type := .int, accessFlags := 25, slot := 12, constantValue := 0 }, { name := "T_FLOAT", type := .int, accessFlags := 25, slot := 13, constantValue := 0 }, { name := "T_DOUBLE", type := .int, accessFlags := 25, slot := 14, constantValue := 0 }, { name := "T_BYTE", type := .int, accessFlags := 25, slot := 15, constantValue := 0 }, { name := "T_SHORT", type := .int, accessFlags := 25, slot := 16, constantValue := 0 }, { name := "T_INT", type := .int, accessFlags := 25, slot := 17, constantValue := 0 }, { name := "T_LONG", type := .int, accessFlags := 25, slot := 18, constantValue := 0 }, { name := "JLA", type := (.object "jdk/internal/access/JavaLangAccess"), accessFlags := 26, slot := 19, constantValue := 0 }, { name := "SOFT_MAX_ARRAY_LENGTH", type := .int, accessFlags := 25, slot := 20, constantValue := 0 }]
  methods := #[k13m0]
  instanceTypes := #[]
  staticTypes := #[(.object "jdk/internal/misc/Unsafe"), .boolean, .int, .int, .int, .int, .int, .int, .int, .int, .int, .int, .int, .int, .int, .int, .int, .int, .int, (.object "jdk/internal/access/JavaLangAccess"), .int]
  resolved := Array.replicate 378 none
  statics := none }

def pool14 : Array CpInfo := pool [(1, u "java/lang/Cloneable"), (0, .class_ 1), (0, u "java/lang/Object"), (0, .class_ 3)] 3

/-- java/lang/Cloneable -/
def k14 : Class := { plain "java/lang/Cloneable" (some 0) with
  accessFlags := 1537
  interfaces := #[]
  cf := some (fileOf pool14 2 #[] #[] 1537 4 #[] #[])
  fields := #[]
  methods := #[]
  instanceTypes := #[]
  staticTypes := #[]
  resolved := Array.replicate 8 none
  statics := none }

/-- the primitive byte -/
def k15 : Class := { plain "byte" none with kind := .primitive 'B', accessFlags := 0x411 }
/-- [B -/
def k16 : Class := { plain "[B" (some 0) with kind := .array 15 .byte, interfaces := #[14, 2], accessFlags := 1041 }

/-- the primitive char -/
def k17 : Class := { plain "char" none with kind := .primitive 'C', accessFlags := 0x411 }
/-- [C -/
def k18 : Class := { plain "[C" (some 0) with kind := .array 17 .char, interfaces := #[14, 2], accessFlags := 1041 }

/-- the primitive int -/
def k19 : Class := { plain "int" none with kind := .primitive 'I', accessFlags := 0x411 }
/-- [I -/
def k20 : Class := { plain "[I" (some 0) with kind := .array 19 .int, interfaces := #[14, 2], accessFlags := 1041 }

def heap : Heap := #[{ cls := 7, slots := #[.long 0, .int 1, .null, .int 0, .null, .int 0, .int 0], vm := .statics 7 },
  { cls := 12, slots := #[.null, .null, .null], vm := .statics 12 }]
def classes : Array Class := #[k0, k1, k2, k3, k4, k5, k6, k7, k8, k9, k10, k11, k12, k13, k14, k15, k16, k17, k18, k19, k20]
def interned : List (Array UInt16 × Addr) := []
def slotsUsed : Nat := 10
def theMethod : MethodId := ⟨1, 1⟩
def args0 : Array Value := #[.int 5, .int 300, .int 77, .int 3, .int 9]
def aboutOver (below : List Frame) : State where
  vm := { classes := classes, interned := interned.toArray }
  heap := heap
  slotsUsed := slotsUsed
  threads := #[{ frames := .invoking theMethod args0 :: below }]
def below0 : List Frame := [.native { method := ⟨0, 0⟩, args := #[] }]
def about1 : State := aboutOver below0
def p0 : Program := .bare "" "" ""
def e0 : Env := launch0.env 0 0 0
theorem w_frames : about1.frames = Frame.invoking theMethod args0 :: below0 := rfl
set_option maxRecDepth 65536 in
theorem w_args : argsFit about1.vm theMethod args0 = true := by decide +kernel
set_option maxRecDepth 65536 in
theorem w_heap : heapFits about1 = true := by decide +kernel
set_option maxRecDepth 65536 in
theorem w_runnable : about1.curStatus? = some .runnable := by decide +kernel
set_option maxRecDepth 65536 in
theorem w_alone : about1.alone = true := by decide +kernel
set_option maxRecDepth 65536 in
theorem w_named : about1.methodNamed? x = some theMethod := by decide +kernel
set_option maxRecDepth 65536 in
theorem w_hears : about1.hears theMethod below0 = true := by decide +kernel
set_option maxRecDepth 65536 in
theorem w_ripe : about1.ripe theMethod args0 below0 = true := by decide +kernel
theorem w_running : about1.status = .running := rfl
set_option maxRecDepth 65536 in
theorem w_room : about1.hasRoom e0.platform room_1 = true :=
  launch0.hasRoom_least _ room_1 (by decide +kernel) (by decide +kernel) (by decide +kernel) (by decide +kernel) (by decide +kernel) (by decide +kernel)
theorem allAtoms_all (ts : List Jvm.Cond) (a : Array Jvm.Value) (st : Jvm.State) : (allAtoms ts).before a st = ts.all (fun c => c.before a st) := by
  induction ts with
  | nil => rfl
  | cons c t ih =>
    show (Jvm.Cond.and c (allAtoms t)).before a st = _
    rw [Jvm.Cond.before_and, ih, List.all_cons]
def words1 : List Jvm.Cond := Jvm.Cond.code x code maxLocals ret :: tables_1
/-- a 'code' word, met by the world's own term for the bytes: nothing is compared byte by byte -/
theorem code_word {y : MethodName} {bytes : ByteArray} {mx : Nat} {rt : Option FieldType} {a : Array Value} {s : State} {m : MethodId} {meth : Method} {c : Code} (h1 : s.methodNamed? y = some m) (h2 : s.vm.method? m = some meth) (h3 : meth.code = some c) (h4 : c.code = bytes)
    (h5 : (c.maxLocals == mx && c.exceptionTable.isEmpty && decide (c.maxStack ≤ mostOperands) && decide (meth.sig.returnType = rt) && !meth.locks && decide (parseMethodDescriptor y.desc = some meth.sig)) = true) : (Jvm.Cond.code y bytes mx rt).before a s = true := by
  simp only [Bool.and_eq_true, beq_iff_eq, Bool.not_eq_true', decide_eq_true_eq] at h5
  obtain ⟨⟨⟨⟨⟨g1, g2⟩, g3⟩, g4⟩, g5⟩, g6⟩ := h5
  simp [Cond.before, Cond.holds, Cond.value, h1, h2, h3, h4, g1, g2, g3, g4, g5, g6]
def isCode : Jvm.Cond → Bool
  | .code _ _ _ _ => true
  | _ => false
theorem all_split {L : List Jvm.Cond} {P : Jvm.Cond → Bool} (h1 : L.all (fun c => isCode c || P c) = true) (h2 : ∀ c ∈ L.filter isCode, P c = true) : L.all P = true := by
  refine List.all_eq_true.mpr fun c hc => ?_
  have h := List.all_eq_true.mp h1 c hc
  rcases Bool.eq_false_or_eq_true (isCode c) with hi | hi
  · exact h2 c (List.mem_filter.mpr ⟨hc, hi⟩)
  · simpa [hi] using h
set_option maxRecDepth 65536 in
theorem w_c0 : (Jvm.Cond.code x code maxLocals ret).before args0 about1 = true := code_word (m := ⟨1, 1⟩) (meth := k1m1) (c := k1c1) (by decide +kernel) rfl rfl rfl (by decide +kernel)
set_option maxRecDepth 65536 in
theorem w_c1 : (Jvm.Cond.code ({ cls := "java/lang/String", name := "<init>", desc := "([C)V" } : Jvm.MethodName) jdk_42_method_3_code (2 : Nat) (Option.none : Option Jvm.ClassFile.FieldType)).before args0 about1 = true := code_word (m := ⟨7, 1⟩) (meth := k7m1) (c := k7c1) (by decide +kernel) rfl rfl rfl (by decide +kernel)
set_option maxRecDepth 65536 in
theorem w_c2 : (Jvm.Cond.code ({ cls := "java/lang/String", name := "<init>", desc := "([CIILjava/lang/Void;)V" } : Jvm.MethodName) jdk_42_method_149_code (6 : Nat) (Option.none : Option Jvm.ClassFile.FieldType)).before args0 about1 = true := code_word (m := ⟨7, 2⟩) (meth := k7m2) (c := k7c2) (by decide +kernel) rfl rfl rfl (by decide +kernel)
set_option maxRecDepth 65536 in
theorem w_c3 : (Jvm.Cond.code ({ cls := "java/lang/Object", name := "<init>", desc := "()V" } : Jvm.MethodName) object_method_1_code (1 : Nat) (Option.none : Option Jvm.ClassFile.FieldType)).before args0 about1 = true := code_word (m := ⟨0, 0⟩) (meth := k0m0) (c := k0c0) (by decide +kernel) rfl rfl rfl (by decide +kernel)
set_option maxRecDepth 65536 in
theorem w_c4 : (Jvm.Cond.code ({ cls := "java/lang/StringUTF16", name := "compress", desc := "([CII)[B" } : Jvm.MethodName) jdk_52_method_16_code (6 : Nat) (Option.some (Jvm.ClassFile.FieldType.array Jvm.ClassFile.FieldType.byte))).before args0 about1 = true := code_word (m := ⟨8, 2⟩) (meth := k8m2) (c := k8c2) (by decide +kernel) rfl rfl rfl (by decide +kernel)
set_option maxRecDepth 65536 in
theorem w_c5 : (Jvm.Cond.code ({ cls := "java/lang/StringUTF16", name := "compress", desc := "([CI[BII)I" } : Jvm.MethodName) jdk_52_method_21_code (7 : Nat) (Option.some Jvm.ClassFile.FieldType.int)).before args0 about1 = true := code_word (m := ⟨8, 3⟩) (meth := k8m3) (c := k8c3) (by decide +kernel) rfl rfl rfl (by decide +kernel)
set_option maxRecDepth 65536 in
theorem w_c6 : (Jvm.Cond.code ({ cls := "java/lang/StringUTF16", name := "coderFromArrayLen", desc := "([BI)B" } : Jvm.MethodName) jdk_52_method_15_code (2 : Nat) (Option.some Jvm.ClassFile.FieldType.byte)).before args0 about1 = true := code_word (m := ⟨8, 1⟩) (meth := k8m1) (c := k8c1) (by decide +kernel) rfl rfl rfl (by decide +kernel)
set_option maxRecDepth 65536 in
theorem w_c7 : (Jvm.Cond.code ({ cls := "com/example/mustr/mustr/rules/FieldValues", name := "<init>", desc := "(Ljava/util/Map;Ljava/lang/String;)V" } : Jvm.MethodName) prog_69_method_1_code (3 : Nat) (Option.none : Option Jvm.ClassFile.FieldType)).before args0 about1 = true := code_word (m := ⟨10, 0⟩) (meth := k10m0) (c := k10c0) (by decide +kernel) rfl rfl rfl (by decide +kernel)
set_option maxRecDepth 65536 in
theorem w_c8 : (Jvm.Cond.code ({ cls := "java/lang/Record", name := "<init>", desc := "()V" } : Jvm.MethodName) jdk_30_method_1_code (1 : Nat) (Option.none : Option Jvm.ClassFile.FieldType)).before args0 about1 = true := code_word (m := ⟨9, 0⟩) (meth := k9m0) (c := k9c0) (by decide +kernel) rfl rfl rfl (by decide +kernel)
set_option maxRecDepth 65536 in
theorem w_c9 : (Jvm.Cond.code ({ cls := "com/example/mustr/mustr/rules/FieldValues", name := "isRead", desc := "()Z" } : Jvm.MethodName) prog_69_method_4_code (1 : Nat) (Option.some Jvm.ClassFile.FieldType.boolean)).before args0 about1 = true := code_word (m := ⟨10, 1⟩) (meth := k10m1) (c := k10c1) (by decide +kernel) rfl rfl rfl (by decide +kernel)
def codes1 : List Jvm.Cond := [Jvm.Cond.code x code maxLocals ret, Jvm.Cond.code ({ cls := "java/lang/String", name := "<init>", desc := "([C)V" } : Jvm.MethodName) jdk_42_method_3_code (2 : Nat) (Option.none : Option Jvm.ClassFile.FieldType), Jvm.Cond.code ({ cls := "java/lang/String", name := "<init>", desc := "([CIILjava/lang/Void;)V" } : Jvm.MethodName) jdk_42_method_149_code (6 : Nat) (Option.none : Option Jvm.ClassFile.FieldType), Jvm.Cond.code ({ cls := "java/lang/Object", name := "<init>", desc := "()V" } : Jvm.MethodName) object_method_1_code (1 : Nat) (Option.none : Option Jvm.ClassFile.FieldType), Jvm.Cond.code ({ cls := "java/lang/StringUTF16", name := "compress", desc := "([CII)[B" } : Jvm.MethodName) jdk_52_method_16_code (6 : Nat) (Option.some (Jvm.ClassFile.FieldType.array Jvm.ClassFile.FieldType.byte)), Jvm.Cond.code ({ cls := "java/lang/StringUTF16", name := "compress", desc := "([CI[BII)I" } : Jvm.MethodName) jdk_52_method_21_code (7 : Nat) (Option.some Jvm.ClassFile.FieldType.int), Jvm.Cond.code ({ cls := "java/lang/StringUTF16", name := "coderFromArrayLen", desc := "([BI)B" } : Jvm.MethodName) jdk_52_method_15_code (2 : Nat) (Option.some Jvm.ClassFile.FieldType.byte), Jvm.Cond.code ({ cls := "com/example/mustr/mustr/rules/FieldValues", name := "<init>", desc := "(Ljava/util/Map;Ljava/lang/String;)V" } : Jvm.MethodName) prog_69_method_1_code (3 : Nat) (Option.none : Option Jvm.ClassFile.FieldType), Jvm.Cond.code ({ cls := "java/lang/Record", name := "<init>", desc := "()V" } : Jvm.MethodName) jdk_30_method_1_code (1 : Nat) (Option.none : Option Jvm.ClassFile.FieldType), Jvm.Cond.code ({ cls := "com/example/mustr/mustr/rules/FieldValues", name := "isRead", desc := "()Z" } : Jvm.MethodName) prog_69_method_4_code (1 : Nat) (Option.some Jvm.ClassFile.FieldType.boolean)]
set_option maxRecDepth 65536 in
theorem codes_eq : words1.filter isCode = codes1 := rfl
theorem w_codes : ∀ c ∈ words1.filter isCode, c.before args0 about1 = true := by
  rw [codes_eq]
  intro c hc
  simp only [codes1, List.mem_cons, List.not_mem_nil, or_false] at hc
  rcases hc with rfl | rfl | rfl | rfl | rfl | rfl | rfl | rfl | rfl | rfl
  · exact w_c0
  · exact w_c1
  · exact w_c2
  · exact w_c3
  · exact w_c4
  · exact w_c5
  · exact w_c6
  · exact w_c7
  · exact w_c8
  · exact w_c9
set_option maxRecDepth 65536 in
theorem w_t1 : (words1.take 24).all (fun c => isCode c || c.before args0 about1) = true := by decide +kernel
set_option maxRecDepth 65536 in
theorem w_t2 : ((words1.drop 24).take 24).all (fun c => isCode c || c.before args0 about1) = true := by decide +kernel
set_option maxRecDepth 65536 in
theorem w_t3 : ((words1.drop 24).drop 24).all (fun c => isCode c || c.before args0 about1) = true := by decide +kernel
theorem w_tables : (allAtoms (Jvm.Cond.code x code maxLocals ret :: tables_1)).before args0 about1 = true := by
  rw [allAtoms_all]
  show words1.all (fun c => c.before args0 about1) = true
  refine all_split ?_ w_codes
  rw [← List.take_append_drop 24 words1, List.all_append, w_t1, ← List.take_append_drop 24 (words1.drop 24), List.all_append, w_t2, w_t3]
  rfl
set_option maxRecDepth 65536 in
theorem w_rest : rest_1_c.before args0 about1 = true := by decide +kernel
set_option maxRecDepth 65536 in
theorem w_case : (Jvm.Cond.and given_1 narrow_1).before args0 about1 = true := by decide +kernel
set_option maxRecDepth 65536 in
theorem w_consts : constsHeld consts_1 about1 := Jvm.Lit.constsHeldB_iff.mp (by decide +kernel)
theorem w_applies : (headSpec (Jvm.Cond.code x code maxLocals ret :: tables_1) room_1).applies x e0.platform about1 = true :=
  (Spec.applies_iff w_frames).mpr ⟨w_running, w_runnable, w_alone, w_named, w_hears, w_ripe, w_room, w_tables⟩
theorem atStart : AtStart classFile x code maxLocals ret World_1 tables_1 room_1 Calls_1 rest_1 Pre_1 launch0 p0 e0 about1 theMethod args0 below0 :=
  ⟨lists_1, trivial, launch0.admits_env _ _ _, launch0.least_env, fairChoices_fair.cas, fairChoices_fair.clock, w_frames, w_args, w_heap, w_applies, ⟨w_consts, trivial⟩, w_rest, w_case⟩
end start1
theorem witness_1 : WitnessClaimed_1 := ⟨start1.p0, start1.e0, start1.about1, start1.theMethod, start1.args0, start1.below0, start1.atStart⟩
end Jvm.Pilot.@@N@@
