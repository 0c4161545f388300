import JvmDerived
import JvmDerived.Pilot.@@N@@Statement
import JvmDerived.Pilot.@@N@@Code
set_option linter.unusedVariables false
set_option linter.unusedSimpArgs false
namespace Jvm.Pilot.@@N@@
open Jvm Jvm.ClassFile Sem Op Lib Jvm.Free Jvm.Stand Jvm.LawKit Jvm.RoadKit Bundle Jvm.Pilot.@@N@@.Jvm.D
/-! own_Out: from the frame g over T the run comes to a return of which Q speaks. A walk is a proof of own_Out from its entry, backwards step by step; so it may fork. -/
section OwnKit
variable {p : Program} {l : Launch} {e : Env} {R : Room} {s : State} {m : MethodId} {args : Array Value} {below : List Frame} {meth : Method} {c : Code} {T : State} {locs : List Loc} {cells slots kc ks : Nat} {Z : State} {a0 : Array Value} {h h' h0 : Heap} {Q : Option Value → Heap → List Loc → Prop} {g : JFrame}
def own_Out (p : Program) (e : Env) (below : List Frame) (s : State) (Q : Option Value → Heap → List Loc → Prop) (kc ks : Nat) (T : State) (g : JFrame) : Prop :=
  ∃ U o, Steps p.tables e below (T.setTop g) U ∧ U.status = .running ∧ Ended U below o ∧ ∃ v L, o = .returned v ∧ Q v U.heap L ∧ FrameEnd s o U L kc ks
theorem own_st (T' : State) (g' : JFrame) (st : ∀ t, Steps p.tables e below (T'.setTop g') t → Steps p.tables e below (T.setTop g) t) (k : own_Out p e below s Q kc ks T' g') : own_Out p e below s Q kc ks T g := by
  obtain ⟨U, o, h1, h2⟩ := k; exact ⟨U, o, st _ h1, h2⟩
theorem own_tr (T' : State) (g' : JFrame) (st : Steps p.tables e below (T.setTop g) (T'.setTop g')) (k : own_Out p e below s Q kc ks T' g') : own_Out p e below s Q kc ks T g := by
  obtain ⟨U, o, h1, h2⟩ := k; exact ⟨U, o, st.trans h1, h2⟩
theorem own_ret (X : Stand p l e R s m args below meth c T locs cells slots) (hx : p.tables.exec = Jvm.exec) (hlk : meth.locks = false) {pc : Nat} {Ls : Array Slot} {w : Value} {t : FieldType} {i : Instr} {rest : List Value} (hret : meth.sig.returnType = some t) (hn : narrow t w = w)
    (hi : (i = .ireturn ∧ (t = .int ∨ t = .boolean ∨ t = .byte ∨ t = .char ∨ t = .short) ∧ ∃ z, w = .int z) ∨ (i = .lreturn ∧ t = .long ∧ ∃ z, w = .long z) ∨ (i = .dreturn ∧ t = .double ∧ ∃ z, w = .double z) ∨ (i = .freturn ∧ t = .float ∧ ∃ z, w = .float z) ∨ (i = .areturn ∧ t.isReference = true ∧ w.isRef = true))
    (hd : decode c.code pc = .ok (i, 1)) (hc : cells ≤ kc) (hs : slots ≤ ks) (hq : Q (some w) T.heap locs) : own_Out p e below s Q kc ks T (mkF m pc Ls (w :: rest)) := by
  obtain ⟨fs, hr, hrun, hended, hW, hsame⟩ := X.leave (v := some w) (fun h => by rw [hret] at h; cases h) hlk
  exact ⟨_, _, retOut X hx hret hn hi hd hr, hrun, hended, _, _, rfl, hq, ⟨_, rfl⟩, hW, hsame.mono hc hs⟩
theorem own_retI (X : Stand p l e R s m args below meth c T locs cells slots) (hx : p.tables.exec = Jvm.exec) (hlk : meth.locks = false) {pc : Nat} {Ls : Array Slot} {z : Int32} {rest : List Value} (hret : meth.sig.returnType = some .int)
    (hd : decode c.code pc = .ok (.ireturn, 1)) (hc : cells ≤ kc) (hs : slots ≤ ks) (hq : Q (some (.int z)) T.heap locs) : own_Out p e below s Q kc ks T (mkF m pc Ls (.int z :: rest)) :=
  own_ret X hx hlk hret rfl (Or.inl ⟨rfl, Or.inl rfl, z, rfl⟩) hd hc hs hq
theorem own_retJ (X : Stand p l e R s m args below meth c T locs cells slots) (hx : p.tables.exec = Jvm.exec) (hlk : meth.locks = false) {pc : Nat} {Ls : Array Slot} {z : Int64} {rest : List Value} (hret : meth.sig.returnType = some .long)
    (hd : decode c.code pc = .ok (.lreturn, 1)) (hc : cells ≤ kc) (hs : slots ≤ ks) (hq : Q (some (.long z)) T.heap locs) : own_Out p e below s Q kc ks T (mkF m pc Ls (.long z :: rest)) :=
  own_ret X hx hlk hret rfl (Or.inr (Or.inl ⟨rfl, rfl, z, rfl⟩)) hd hc hs hq
theorem own_nref {t : FieldType} {w : Value} (ht : t.isReference = true) (hw : w.isRef = true) : narrow t w = w := by
  cases t <;> first | (cases ht; done) | (cases w <;> first | rfl | (cases hw; done))
theorem own_retA (X : Stand p l e R s m args below meth c T locs cells slots) (hx : p.tables.exec = Jvm.exec) (hlk : meth.locks = false) {pc : Nat} {Ls : Array Slot} {w : Value} {t : FieldType} {rest : List Value} (hret : meth.sig.returnType = some t) (ht : t.isReference = true) (hw : w.isRef = true)
    (hd : decode c.code pc = .ok (.areturn, 1)) (hc : cells ≤ kc) (hs : slots ≤ ks) (hq : Q (some w) T.heap locs) : own_Out p e below s Q kc ks T (mkF m pc Ls (w :: rest)) :=
  own_ret X hx hlk hret (own_nref ht hw) (Or.inr (Or.inr (Or.inr (Or.inr ⟨rfl, ht, hw⟩)))) hd hc hs hq
theorem own_retN (X : Stand p l e R s m args below meth c T locs cells slots) (hx : p.tables.exec = Jvm.exec) (hlk : meth.locks = false) {pc : Nat} {Ls : Array Slot} {z : Int32} {t : FieldType} {rest : List Value} (hret : meth.sig.returnType = some t) (ht : t = .boolean ∨ t = .byte ∨ t = .char ∨ t = .short)
    (hd : decode c.code pc = .ok (.ireturn, 1)) (hc : cells ≤ kc) (hs : slots ≤ ks) (hq : Q (some (.int (nar t z))) T.heap locs) : own_Out p e below s Q kc ks T (mkF m pc Ls (.int z :: rest)) := by
  obtain ⟨fs, hr, hrun, hended, hW, hsame⟩ := X.leave (v := some (.int (nar t z))) (fun h => by rw [hret] at h; cases h) hlk
  exact ⟨_, _, retN X hx hret ht hd hr, hrun, hended, _, _, rfl, hq, ⟨_, rfl⟩, hW, hsame.mono hc hs⟩
theorem own_ret0 (X : Stand p l e R s m args below meth c T locs cells slots) (hx : p.tables.exec = Jvm.exec) (hlk : meth.locks = false) {pc : Nat} {Ls : Array Slot} (hret : meth.sig.returnType = none)
    (hd : decode c.code pc = .ok (.return_, 1)) (hc : cells ≤ kc) (hs : slots ≤ ks) (hq : Q none T.heap locs) : own_Out p e below s Q kc ks T (mkF m pc Ls []) := by
  obtain ⟨fs, hr, hrun, hended, hW, hsame⟩ := X.leave (v := none) (fun _ => rfl) hlk
  exact ⟨_, _, X.returnOut hx hret hd hr, hrun, hended, _, _, rfl, hq, ⟨_, rfl⟩, hW, hsame.mono hc hs⟩
/-- a method's contract at the arguments as' over the heap h0 -/
def own_Met (l : Launch) (Z : State) (y : MethodName) (bytes : ByteArray) (maxL : Nat) (ret : Option FieldType) (rm : Room) (as' : Array Value) (h0 : Heap) (Q : Option Value → Heap → List Loc → Prop) : Prop :=
  ∀ ws : List Jvm.Cond, MetFree l y (head1 (Jvm.Cond.code y bytes maxL ret :: ws) rm) (fun a U => a = as' ∧ Z.Warmed39 U.vm ∧ U.heap = h0) (fun _ _ _ _ _ => True) (fun _ U o U' => ∃ v L, o = .returned v ∧ Q v U'.heap L ∧ FrameEnd U o U' L rm.cells rm.slots)
theorem own_body {y : MethodName} {bytes : ByteArray} {maxL : Nat} {ret : Option FieldType} {rm : Room} {as' : Array Value} (Ls : Array Slot) (hp : plainFor y = true) (hef : ∀ m, entryFrame m as' maxL = mkF m 0 Ls [])
    (hbody : ∀ (p : Program) (e : Env) (s : State) (m : MethodId) (below : List Frame) (meth : Method) (c : Code) (s₁ : State), Stand p l e rm s m as' below meth c s₁ [] 0 0 → p.tables.exec = Jvm.exec → c.code = bytes → c.maxLocals = maxL → meth.sig.returnType = ret → meth.locks = false → Z.Warmed39 s.vm → s.vm.findClass y.cls = some m.cls → meth.name = y.name → s₁.heap = h0 →
      own_Out p e below s Q rm.cells rm.slots s₁ (mkF m 0 Ls [])) : own_Met l Z y bytes maxL ret rm as' h0 Q := by
  intro ws
  refine MetFree.of_bodySF hp hisR ?_
  intro p e s m args below meth c s₁ Bd hml0 hP hK
  obtain ⟨rfl, hZ, hh⟩ := hP
  have X0 : Stand p l e rm s m args below meth c s₁ [] 0 0 := Stand.of_body Bd
  have e0 : s₁.heap = h0 := by rw [← hh, Bd.state]; rfl
  obtain ⟨U, o, h1, h2⟩ := hbody p e s m below meth c s₁ X0 Bd.exec Bd.bytes hml0 Bd.returns Bd.notSynchronized hZ (findClass_of_methodNamed Bd.named) (name_of_methodNamed Bd.named Bd.method).1 e0
  exact ⟨U, o, castTop (hef m) h1, h2⟩
theorem own_callS (X : Stand p l e R s m args below meth c T locs cells slots) (hx : p.tables.exec = Jvm.exec) (hZ : Z.Warmed39 s.vm) {own : String} {index : Nat} {y : MethodName} {bytes : ByteArray} {maxL : Nat} {ret : Option FieldType} (hown : s.vm.findClass own = some m.cls)
    (w1 : (Cond.methodLink own index y).before a0 Z = true) (w2 : (Cond.static y).before a0 Z = true) (w3 : (Cond.initialized y.cls).before a0 Z = true) (w4 : (Cond.code y bytes maxL ret).before a0 Z = true) (hy : y.cls ≠ "java/lang/invoke/MethodHandle" ∧ y.cls ≠ "java/lang/invoke/VarHandle")
    {rm : Room} (argsL rest : List Value) {Qc : Option Value → Heap → List Loc → Prop} (M : own_Met l Z y bytes maxL ret rm argsL.toArray h Qc) (W : Nat) (hf : rm.frames + 1 ≤ R.frames) (hl : W + (maxL + 11) + rm.locals ≤ R.locals) (eT : T.heap = h)
    {pc : Nat} {Ls : Array Slot} {st : List Value} (hsize : Ls.size = c.maxLocals) (hlen : ∀ sig, parseMethodDescriptor y.desc = some sig → argsL.length = sig.parameters.length) (hstack : st = argsL.reverse ++ rest) (hW : (rest.map fun v => v.category).sum ≤ W)
    (hd : decode c.code pc = .ok (.invokestatic index, 3)) (hc : cells + rm.cells ≤ R.cells) (hs : slots + rm.slots ≤ R.slots)
    (k : ∀ v T' L, Stand p l e R s m args below meth c T' (locs ++ L) (cells + rm.cells) (slots + rm.slots) → Qc v T'.heap L → own_Out p e below s Q kc ks T' (mkF m (pc + 3) Ls (v.toList ++ rest))) : own_Out p e below s Q kc ks T (mkF m pc Ls st) := by
  obtain ⟨v, vm1, ⟨T', L', c', n'⟩, -, X', ⟨L, hQ, r1, r2, r3⟩, stp⟩ := Jvm.LawKit.callS X hx (y := y) (bytes := bytes) (maxL := maxL) (ret := ret) hown (mvT hZ w1) (mvT hZ w2) (mvT hZ w3) (mvT hZ w4) hy (backOf (W := W) (M []) hZ w4 w3 hf hl) (g := mkF m pc Ls st) rfl hsize (argsL := argsL) (rest := rest) hlen hstack (by show 2 * 0 + _ ≤ _; omega) hd (fun _ _ => ⟨rfl, eT, hc, hs⟩)
  dsimp only [Pt.U, Pt.locs, Pt.cells, Pt.slots] at X' r1 r2 r3 stp hQ
  subst r1 r2 r3
  exact own_st _ _ stp (k v T' L X' hQ)
theorem own_callC (X : Stand p l e R s m args below meth c T locs cells slots) (hx : p.tables.exec = Jvm.exec) (hZ : Z.Warmed39 s.vm) {own : String} {index : Nat} {y : MethodName} {bytes : ByteArray} {maxL : Nat} (hy1 : y.name = "<init>") (hown : s.vm.findClass own = some m.cls)
    (w1 : (Cond.methodLink own index y).before a0 Z = true) (w2 : (Cond.instanceMethod y).before a0 Z = true) (w3 : (Cond.initialized y.cls).before a0 Z = true) (w4 : (Cond.code y bytes maxL none).before a0 Z = true) (hy : y.cls ≠ "java/lang/invoke/MethodHandle" ∧ y.cls ≠ "java/lang/invoke/VarHandle")
    {rm : Room} (a : Addr) (argsL rest : List Value) {Qc : Option Value → Heap → List Loc → Prop} (M : own_Met l Z y bytes maxL none rm (.ref a :: argsL).toArray h Qc) (W : Nat) (hf : rm.frames + 1 ≤ R.frames) (hl : W + (maxL + 11) + rm.locals ≤ R.locals) (eT : T.heap = h)
    {pc : Nat} {Ls : Array Slot} {st : List Value} (hsize : Ls.size = c.maxLocals) (hlen : ∀ sig, parseMethodDescriptor y.desc = some sig → argsL.length = sig.parameters.length) (hstack : st = argsL.reverse ++ .ref a :: rest) (hW : (rest.map fun v => v.category).sum ≤ W)
    (hd : decode c.code pc = .ok (.invokespecial index, 3)) (hc : cells + rm.cells ≤ R.cells) (hs : slots + rm.slots ≤ R.slots)
    (k : ∀ v T' L, Stand p l e R s m args below meth c T' (locs ++ L) (cells + rm.cells) (slots + rm.slots) → Qc v T'.heap L → own_Out p e below s Q kc ks T' (mkF m (pc + 3) Ls (v.toList ++ rest))) : own_Out p e below s Q kc ks T (mkF m pc Ls st) := by
  obtain ⟨v, vm1, ⟨T', L', c', n'⟩, -, X', ⟨L, hQ, r1, r2, r3⟩, stp⟩ := X.specialBack hx (y := y) (bytes := bytes) (maxL := maxL) hy1 hown (mvT hZ w1) (mvT hZ w2) (mvT hZ w4) hy (backOf (W := W) (M []) hZ w4 w3 hf hl) (g := mkF m pc Ls st) rfl hsize (Steps.refl _) (a := a) (argsL := argsL) (rest := rest) hlen hstack (by show 2 * 0 + _ ≤ _; omega) hd (fun _ _ => ⟨rfl, eT, hc, hs⟩)
  dsimp only [Pt.U, Pt.locs, Pt.cells, Pt.slots] at X' r1 r2 r3 stp hQ
  subst r1 r2 r3
  exact own_tr _ _ stp (k v T' L X' hQ)
theorem own_callV (X : Stand p l e R s m args below meth c T locs cells slots) (hx : p.tables.exec = Jvm.exec) (hZ : Z.Warmed39 s.vm) {own C : String} {index : Nat} {y z : MethodName} {bytes : ByteArray} {maxL : Nat} {ret : Option FieldType} (hown : s.vm.findClass own = some m.cls)
    (w1 : (Cond.methodLink own index y).before a0 Z = true) (w2 : (Cond.declares y).before a0 Z = true) (hnf : NotFace s y) (w5 : (Cond.selects C y z).before a0 Z = true) (w6 : (Cond.instanceMethod z).before a0 Z = true) (w3 : (Cond.initialized z.cls).before a0 Z = true) (w4 : (Cond.code z bytes maxL ret).before a0 Z = true) (hy : y.cls ≠ "java/lang/invoke/MethodHandle" ∧ y.cls ≠ "java/lang/invoke/VarHandle")
    {rm : Room} (a : Addr) (argsL rest : List Value) {Qc : Option Value → Heap → List Loc → Prop} (E : Exa Z h a C) (M : own_Met l Z z bytes maxL ret rm (.ref a :: argsL).toArray h Qc) (W : Nat) (hf : rm.frames + 1 ≤ R.frames) (hl : W + (maxL + 11) + rm.locals ≤ R.locals) (eT : T.heap = h)
    {pc : Nat} {Ls : Array Slot} {st : List Value} (hsize : Ls.size = c.maxLocals) (hlen : ∀ sig, parseMethodDescriptor y.desc = some sig → argsL.length = sig.parameters.length) (hstack : st = argsL.reverse ++ .ref a :: rest) (hW : (rest.map fun v => v.category).sum ≤ W)
    (hd : decode c.code pc = .ok (.invokevirtual index, 3)) (hc : cells + rm.cells ≤ R.cells) (hs : slots + rm.slots ≤ R.slots)
    (k : ∀ v T' L, Stand p l e R s m args below meth c T' (locs ++ L) (cells + rm.cells) (slots + rm.slots) → Qc v T'.heap L → own_Out p e below s Q kc ks T' (mkF m (pc + 3) Ls (v.toList ++ rest))) : own_Out p e below s Q kc ks T (mkF m pc Ls st) := by
  obtain ⟨cq, kq, qa, qb, qc⟩ := isOf hZ eT E
  obtain ⟨v, vm1, ⟨T', L', c', n'⟩, -, X', ⟨L, hQ, r1, r2, r3⟩, stp⟩ := X.virtualBack hx (y := y) (z := z) hown (mvT hZ w1) (mvT hZ w2) hnf (mvT hZ w5) (mvT hZ w6) hy (backOf (W := W) (M []) hZ w4 w3 hf hl) qa qc (g := mkF m pc Ls st) rfl hsize (Steps.refl _) (argsL := argsL) (rest := rest) hlen hstack (by show 2 * 0 + _ ≤ _; omega) hd (fun _ _ => ⟨rfl, eT, hc, hs⟩)
  dsimp only [Pt.U, Pt.locs, Pt.cells, Pt.slots] at X' r1 r2 r3 stp hQ
  subst r1 r2 r3
  exact own_tr _ _ stp (k v T' L X' hQ)
theorem own_callI (X : Stand p l e R s m args below meth c T locs cells slots) (hx : p.tables.exec = Jvm.exec) (hZ : Z.Warmed39 s.vm) {own C : String} {index count : Nat} {xi y : MethodName} {bytes : ByteArray} {maxL : Nat} {ret : Option FieldType} (hown : s.vm.findClass own = some m.cls)
    (w1 : (Cond.methodLink own index xi).before args s = true) (w2 : (Cond.declares xi).before args s = true) (w7 : (Cond.interfaceMethod xi.cls xi.cls xi.name xi.desc).before args s = true) (w5 : (Cond.selects C xi y).before args s = true) (w6 : (Cond.instanceMethod y).before args s = true) (w8 : (Cond.publicMethod y).before args s = true) (w9 : (Cond.unhidden C xi.name xi.desc).before args s = true) (w10 : (Cond.castable C xi.cls).before args s = true) (w3 : (Cond.initialized y.cls).before a0 Z = true) (w4 : (Cond.code y bytes maxL ret).before a0 Z = true) (hy : xi.cls ≠ "java/lang/invoke/MethodHandle" ∧ xi.cls ≠ "java/lang/invoke/VarHandle")
    {rm : Room} (a : Addr) (argsL rest : List Value) {Qc : Option Value → Heap → List Loc → Prop} (E : Exa Z h a C) (M : own_Met l Z y bytes maxL ret rm (.ref a :: argsL).toArray h Qc) (W : Nat) (hf : rm.frames + 1 ≤ R.frames) (hl : W + (maxL + 11) + rm.locals ≤ R.locals) (eT : T.heap = h)
    {pc : Nat} {Ls : Array Slot} {st : List Value} (hsize : Ls.size = c.maxLocals) (hlen : ∀ sig, parseMethodDescriptor xi.desc = some sig → argsL.length = sig.parameters.length) (hstack : st = argsL.reverse ++ .ref a :: rest) (hW : (rest.map fun v => v.category).sum ≤ W)
    (hd : decode c.code pc = .ok (.invokeinterface index count, 5)) (hc : cells + rm.cells ≤ R.cells) (hs : slots + rm.slots ≤ R.slots)
    (k : ∀ v T' L, Stand p l e R s m args below meth c T' (locs ++ L) (cells + rm.cells) (slots + rm.slots) → Qc v T'.heap L → own_Out p e below s Q kc ks T' (mkF m (pc + 5) Ls (v.toList ++ rest))) : own_Out p e below s Q kc ks T (mkF m pc Ls st) := by
  obtain ⟨cq, kq, qa, qb, qc⟩ := isOf hZ eT E
  obtain ⟨v, vm1, ⟨T', L', c', n'⟩, -, X', ⟨L, hQ, r1, r2, r3⟩, stp⟩ := X.interfaceBack hx (xi := xi) (y := y) hown w1 w2 w7 w5 w6 w8 w9 w10 hy (backOf (W := W) (M []) hZ w4 w3 hf hl) qa qb qc (g := mkF m pc Ls st) rfl hsize (Steps.refl _) (argsL := argsL) (rest := rest) hlen hstack (by show 2 * 0 + _ ≤ _; omega) hd (fun _ _ => ⟨rfl, eT, hc, hs⟩)
  dsimp only [Pt.U, Pt.locs, Pt.cells, Pt.slots] at X' r1 r2 r3 stp hQ
  subst r1 r2 r3
  exact own_tr _ _ stp (k v T' L X' hQ)
theorem own_callP (X : Stand p l e R s m args below meth c T locs cells slots) (hx : p.tables.exec = Jvm.exec) (hZ : Z.Warmed39 s.vm) {own : String} {index : Nat} {y : MethodName} {bytes : ByteArray} {maxL : Nat} {ret : Option FieldType} (hown : s.vm.findClass own = some m.cls)
    (w1 : (Cond.methodLink own index y).before a0 Z = true) (w2 : (Cond.instanceMethod y).before a0 Z = true) (w5 : (Cond.selects y.cls y y).before a0 Z = true) (w6 : (Cond.privateMethod y).before a0 Z = true) (w3 : (Cond.initialized y.cls).before a0 Z = true) (w4 : (Cond.code y bytes maxL ret).before a0 Z = true) (hy : y.cls ≠ "java/lang/invoke/MethodHandle" ∧ y.cls ≠ "java/lang/invoke/VarHandle")
    {rm : Room} (a : Addr) (argsL rest : List Value) {C : String} {Qc : Option Value → Heap → List Loc → Prop} (E : Exa Z h a C) (M : own_Met l Z y bytes maxL ret rm (.ref a :: argsL).toArray h Qc) (W : Nat) (hf : rm.frames + 1 ≤ R.frames) (hl : W + (maxL + 11) + rm.locals ≤ R.locals) (eT : T.heap = h)
    {pc : Nat} {Ls : Array Slot} {st : List Value} (hsize : Ls.size = c.maxLocals) (hlen : ∀ sig, parseMethodDescriptor y.desc = some sig → argsL.length = sig.parameters.length) (hstack : st = argsL.reverse ++ .ref a :: rest) (hW : (rest.map fun v => v.category).sum ≤ W)
    (hd : decode c.code pc = .ok (.invokevirtual index, 3)) (hc : cells + rm.cells ≤ R.cells) (hs : slots + rm.slots ≤ R.slots)
    (k : ∀ v T' L, Stand p l e R s m args below meth c T' (locs ++ L) (cells + rm.cells) (slots + rm.slots) → Qc v T'.heap L → own_Out p e below s Q kc ks T' (mkF m (pc + 3) Ls (v.toList ++ rest))) : own_Out p e below s Q kc ks T (mkF m pc Ls st) := by
  obtain ⟨cq, qa, qb⟩ := E.cell
  obtain ⟨v, vm1, ⟨T', L', c', n'⟩, -, X', ⟨L, hQ, r1, r2, r3⟩, stp⟩ := X.privateBack hx (y := y) (bytes := bytes) (maxL := maxL) (ret := ret) hown (mvT hZ w1) (mvT hZ w2) (mvT hZ w5) (Cond.privateMethod_at (mvP hZ w6 (args := #[]))) (mvT hZ w4) hy (backOf (W := W) (M []) hZ w4 w3 hf hl) (g := mkF m pc Ls st) rfl hsize (Steps.refl _) (a := a) (by rw [eT]; exact qa) qb (argsL := argsL) (rest := rest) hlen hstack (by show 2 * 0 + _ ≤ _; omega) hd (fun _ _ => ⟨rfl, eT, hc, hs⟩)
  dsimp only [Pt.U, Pt.locs, Pt.cells, Pt.slots] at X' r1 r2 r3 stp hQ
  subst r1 r2 r3
  exact own_tr _ _ stp (k v T' L X' hQ)
/-- an array by its values: n places, place i holds f i -/
def own_A (Z : State) (h : Heap) (a : Addr) (k : ClassId) (ty : FieldType) (n : Nat) (f : Nat → Value) : Prop := ∃ cl : Cell, Arr Z h a cl ty ∧ cl.cls = k ∧ cl.slots.size = n ∧ n < 2 ^ 31 ∧ ∀ i, i < n → cl.slots[i]? = some (f i)
variable {a b : Addr} {k : ClassId} {ty : FieldType} {n : Nat} {f f' : Nat → Value} {sl : Nat} {v : Value} {ws : List Addr}
theorem own_A.lt (F : own_A Z h a k ty n f) : a < h.size := by obtain ⟨c, A, -⟩ := F; exact A.lt
theorem own_A.ext (F : own_A Z h a k ty n f) (E : Ext h h') : own_A Z h' a k ty n f := by obtain ⟨c, A, r⟩ := F; exact ⟨c, A.ext E, r⟩
theorem own_A.other (F : own_A Z h b k ty n f) (W : Wr h h' a sl v) (q : b ≠ a) : own_A Z h' b k ty n f := by obtain ⟨c, A, r⟩ := F; exact ⟨c, A.other W q, r⟩
theorem own_A.keep (F : own_A Z h a k ty n f) (K : Keep h h' ws) (q : a ∉ ws) : own_A Z h' a k ty n f := by obtain ⟨c, A, r⟩ := F; exact ⟨c, ⟨K.2.1 a c A.1 q, A.2⟩, r⟩
theorem own_A.cong (F : own_A Z h a k ty n f) (q : ∀ i, i < n → f i = f' i) : own_A Z h a k ty n f' := by obtain ⟨c, A, r1, r2, r3, r4⟩ := F; exact ⟨c, A, r1, r2, r3, fun i hi => by rw [r4 i hi, q i hi]⟩
theorem own_A.new {z : Int32} (A : Arr Z h a (newA k ty z) ty) (q : ¬ z < 0) : own_A Z h a k ty z.toNatClampNeg (fun _ => defaultValue ty) := ⟨_, A, rfl, sz_new _ _ _, (back32 q).2, fun i hi => by simp [newA, hi]⟩
theorem own_A.newL {z : Int32} (A : Arr Z h a (newA k ty z) ty) (q : ¬ z < 0) (n : Nat) (hn : z.toNatClampNeg = n) (d : Value) (hd : defaultValue ty = d) : own_A Z h a k ty n (fun i => (List.replicate n d).getD i d) := by
  subst hn hd
  refine (own_A.new A q).cong fun i hi => ?_
  simp [List.getD_eq_getElem?_getD, List.getElem?_replicate, hi]
theorem own_jn {j : Int32} {i : Nat} (q : j.toInt = (i : Int)) : j.toNatClampNeg = i := by simp only [Int32.toNatClampNeg]; omega
theorem own_in {j : Int32} {i n : Nat} {cl : Cell} (q : j.toInt = (i : Int)) (hi : i < n) (S : cl.slots.size = n) : ¬ (j < 0 ∨ cl.slots.size ≤ j.toNatClampNeg) := by
  rw [own_jn q, Int32.lt_iff_toInt_lt, q, S]; have : (0 : Int32).toInt = 0 := rfl; omega
theorem own_A.set (F : own_A Z h a k ty n f) {i : Nat} (hi : i < n) (W : Wr h h' a i v) : own_A Z h' a k ty n (fun x => if x = i then v else f x) := by
  obtain ⟨cl, A, r1, r2, r3, r4⟩ := F
  refine ⟨_, A.same W, r1, by rw [sz_set]; exact r2, r3, fun x hx => ?_⟩
  by_cases q : x = i
  · subst q; simp [Cell.setSlot, r2, hi]
  · show (cl.slots.setIfInBounds i v)[x]? = _
    rw [Array.getElem?_setIfInBounds_ne (Ne.symm q)]; simp only [q, if_false]; exact r4 x hx
theorem own_A.setL {L : List Value} {d : Value} (F : own_A Z h a k ty n (fun x => L.getD x d)) {i : Nat} (hi : i < n) (hL : i < L.length) (W : Wr h h' a i v) : own_A Z h' a k ty n (fun x => (L.set i v).getD x d) := by
  refine (F.set hi W).cong fun x hx => ?_
  by_cases q : x = i
  · subst q; simp [List.getD_eq_getElem?_getD, List.getElem?_set, hL]
  · simp [List.getD_eq_getElem?_getD, List.getElem?_set, q, Ne.symm q]
theorem own_A.setI {b : Nat → Int32} {x : Int32} (F : own_A Z h a k ty n (fun y => .int (b y))) {i : Nat} (hi : i < n) (W : Wr h h' a i (.int x)) : own_A Z h' a k ty n (fun y => .int (if y = i then x else b y)) := by
  refine (F.set hi W).cong fun y hy => ?_
  by_cases q : y = i <;> simp [q]
theorem own_A.setLI {L : List Int32} {x : Int32} (F : own_A Z h a k ty n (fun y => .int (L.getD y 0))) {i : Nat} (hi : i < n) (hL : i < L.length) (W : Wr h h' a i (.int x)) : own_A Z h' a k ty n (fun y => .int ((L.set i x).getD y 0)) := by
  refine (F.setI hi W).cong fun y hy => ?_
  by_cases q : y = i
  · subst q; simp [List.getD_eq_getElem?_getD, List.getElem?_set, hL]
  · simp [List.getD_eq_getElem?_getD, List.getElem?_set, q, Ne.symm q]
theorem own_A.snocI {L : List Int32} {x : Int32} (F : own_A Z h a k ty n (fun y => .int (L.getD y 0))) {i : Nat} (hi : i < n) (hL : L.length = i) (W : Wr h h' a i (.int x)) : own_A Z h' a k ty n (fun y => .int ((L ++ [x]).getD y 0)) := by
  refine (F.setI hi W).cong fun y hy => ?_
  by_cases q : y = i
  · subst q; subst hL; simp [List.getD_eq_getElem?_getD]
  · by_cases r : y < L.length
    · simp [List.getD_eq_getElem?_getD, q, List.getElem?_append_left r]
    · have h1 : L[y]? = none := List.getElem?_eq_none (by omega)
      have h2 : (L ++ [x])[y]? = none := List.getElem?_eq_none (by simp; omega)
      simp [List.getD_eq_getElem?_getD, q, h1, h2]
theorem own_A.newI {z : Int32} (A : Arr Z h a (newA k ty z) ty) (q : ¬ z < 0) (n : Nat) (hn : z.toNatClampNeg = n) (hd : defaultValue ty = .int 0) : own_A Z h a k ty n (fun _ => .int 0) := by
  subst hn; rw [← hd]; exact own_A.new A q
theorem own_A.newLI {z : Int32} (A : Arr Z h a (newA k ty z) ty) (q : ¬ z < 0) (n : Nat) (hn : z.toNatClampNeg = n) (hd : defaultValue ty = .int 0) : own_A Z h a k ty n (fun y => .int ((List.replicate n (0 : Int32)).getD y 0)) := by
  refine (own_A.newI A q n hn hd).cong fun i hi => ?_
  simp [List.getD_eq_getElem?_getD, List.getElem?_replicate, hi]
theorem own_stI (X : Stand p l e R s m args below meth c T locs cells slots) (hx : p.tables.exec = Jvm.exec) (hZ : Z.Warmed39 s.vm) (eT : T.heap = h) (F : own_A Z h a k .int n f) {j x : Int32} (i : Nat) (q : j.toInt = (i : Int)) (hi : i < n) {pc : Nat} {Ls : Array Slot} {rest : List Value} (hd : decode c.code pc = .ok (.iastore, 1)) :
    ∃ T' h', Stand p l e R s m args below meth c T' (locs ++ [⟨a, i⟩]) cells slots ∧ T'.heap = h' ∧ Wr h h' a i (.int x) ∧ ∀ t, Steps p.tables e below (T'.setTop (mkF m (pc + 1) Ls rest)) t → Steps p.tables e below (T.setTop (mkF m pc Ls (.int x :: .int j :: .ref a :: rest))) t := by
  obtain ⟨cl, A, r1, r2, r3, r4⟩ := F
  have := stI X hx hZ eT A (j := j) (x := x) (own_in q hi r2) (g := mkF m pc Ls (.int x :: .int j :: .ref a :: rest)) rfl rfl hd
  rw [own_jn q] at this; exact this
theorem own_stB (X : Stand p l e R s m args below meth c T locs cells slots) (hx : p.tables.exec = Jvm.exec) (hZ : Z.Warmed39 s.vm) (eT : T.heap = h) (F : own_A Z h a k .byte n f) {j x : Int32} (x' : Int32) (hx' : nar .byte x = x') (i : Nat) (q : j.toInt = (i : Int)) (hi : i < n) {pc : Nat} {Ls : Array Slot} {rest : List Value} (hd : decode c.code pc = .ok (.bastore, 1)) :
    ∃ T' h', Stand p l e R s m args below meth c T' (locs ++ [⟨a, i⟩]) cells slots ∧ T'.heap = h' ∧ Wr h h' a i (.int x') ∧ ∀ t, Steps p.tables e below (T'.setTop (mkF m (pc + 1) Ls rest)) t → Steps p.tables e below (T.setTop (mkF m pc Ls (.int x :: .int j :: .ref a :: rest))) t := by
  obtain ⟨cl, A, r1, r2, r3, r4⟩ := F
  have := stB X hx hZ eT A (j := j) (x := x) (own_in q hi r2) (g := mkF m pc Ls (.int x :: .int j :: .ref a :: rest)) rfl rfl hd
  rw [own_jn q] at this; subst hx'; exact this
theorem own_stC (X : Stand p l e R s m args below meth c T locs cells slots) (hx : p.tables.exec = Jvm.exec) (hZ : Z.Warmed39 s.vm) (eT : T.heap = h) (F : own_A Z h a k .char n f) {j x : Int32} (x' : Int32) (hx' : nar .char x = x') (i : Nat) (q : j.toInt = (i : Int)) (hi : i < n) {pc : Nat} {Ls : Array Slot} {rest : List Value} (hd : decode c.code pc = .ok (.castore, 1)) :
    ∃ T' h', Stand p l e R s m args below meth c T' (locs ++ [⟨a, i⟩]) cells slots ∧ T'.heap = h' ∧ Wr h h' a i (.int x') ∧ ∀ t, Steps p.tables e below (T'.setTop (mkF m (pc + 1) Ls rest)) t → Steps p.tables e below (T.setTop (mkF m pc Ls (.int x :: .int j :: .ref a :: rest))) t := by
  obtain ⟨cl, A, r1, r2, r3, r4⟩ := F
  have := stC X hx hZ eT A (j := j) (x := x) (own_in q hi r2) (g := mkF m pc Ls (.int x :: .int j :: .ref a :: rest)) rfl rfl hd
  rw [own_jn q] at this; subst hx'; exact this
theorem own_stR (X : Stand p l e R s m args below meth c T locs cells slots) (hx : p.tables.exec = Jvm.exec) (hZ : Z.Warmed39 s.vm) (eT : T.heap = h) {C : String} (F : own_A Z h a k (.object C) n f) {j : Int32} {v : Value} (O : Ovr Z k C) (I : v = .null ∨ ∃ y, v = .ref y ∧ Ins Z h y C true) (i : Nat) (q : j.toInt = (i : Int)) (hi : i < n) {pc : Nat} {Ls : Array Slot} {rest : List Value} (hd : decode c.code pc = .ok (.aastore, 1)) :
    ∃ T' h', Stand p l e R s m args below meth c T' (locs ++ [⟨a, i⟩]) cells slots ∧ T'.heap = h' ∧ Wr h h' a i v ∧ ∀ t, Steps p.tables e below (T'.setTop (mkF m (pc + 1) Ls rest)) t → Steps p.tables e below (T.setTop (mkF m pc Ls (v :: .int j :: .ref a :: rest))) t := by
  obtain ⟨cl, A, r1, r2, r3, r4⟩ := F
  have S : Sto Z h a v := by
    rcases I with rfl | ⟨y, rfl, I⟩
    · exact Or.inl rfl
    · exact Sto.ofV A r1 O I
  have := stR X hx hZ eT A (j := j) (own_in q hi r2) rfl S (g := mkF m pc Ls (v :: .int j :: .ref a :: rest)) rfl rfl hd
  rw [own_jn q] at this; exact this
theorem own_stRA (X : Stand p l e R s m args below meth c T locs cells slots) (hx : p.tables.exec = Jvm.exec) (hZ : Z.Warmed39 s.vm) (eT : T.heap = h) {C : String} {t0 : FieldType} (F : own_A Z h a k (.array t0) n f) {j : Int32} {v : Value} (O : OvrA Z k t0 C) (I : v = .null ∨ ∃ y, v = .ref y ∧ Ins Z h y C true) (i : Nat) (q : j.toInt = (i : Int)) (hi : i < n) {pc : Nat} {Ls : Array Slot} {rest : List Value} (hd : decode c.code pc = .ok (.aastore, 1)) :
    ∃ T' h', Stand p l e R s m args below meth c T' (locs ++ [⟨a, i⟩]) cells slots ∧ T'.heap = h' ∧ Wr h h' a i v ∧ ∀ t, Steps p.tables e below (T'.setTop (mkF m (pc + 1) Ls rest)) t → Steps p.tables e below (T.setTop (mkF m pc Ls (v :: .int j :: .ref a :: rest))) t := by
  obtain ⟨cl, A, r1, r2, r3, r4⟩ := F
  have S : Sto Z h a v := by
    rcases I with rfl | ⟨y, rfl, I⟩
    · exact Or.inl rfl
    · exact Sto.ofVA A r1 O I
  have := stR X hx hZ eT A (j := j) (own_in q hi r2) rfl S (g := mkF m pc Ls (v :: .int j :: .ref a :: rest)) rfl rfl hd
  rw [own_jn q] at this; exact this
theorem own_ldI (X : Stand p l e R s m args below meth c T locs cells slots) (hx : p.tables.exec = Jvm.exec) (hZ : Z.Warmed39 s.vm) (eT : T.heap = h) (F : own_A Z h a k .int n f) {j : Int32} (i : Nat) (q : j.toInt = (i : Int)) (hi : i < n) {pc : Nat} {Ls : Array Slot} {rest : List Value} (hd : decode c.code pc = .ok (.iaload, 1)) :
    ∀ t, Steps p.tables e below (T.setTop (mkF m (pc + 1) Ls (f i :: rest))) t → Steps p.tables e below (T.setTop (mkF m pc Ls (.int j :: .ref a :: rest))) t := fun t kt => by
  obtain ⟨cl, A, r1, r2, r3, r4⟩ := F
  exact X.iaload hx (j := j) (v := f i) (by rw [eT]; exact A.1) (State.isArrayOf_alike hZ.alike A.2.1) A.2.2 (own_in q hi r2) (by rw [own_jn q]; exact r4 i hi) (g := mkF m pc Ls (.int j :: .ref a :: rest)) rfl rfl hd _ kt
theorem own_ldB (X : Stand p l e R s m args below meth c T locs cells slots) (hx : p.tables.exec = Jvm.exec) (hZ : Z.Warmed39 s.vm) (eT : T.heap = h) (F : own_A Z h a k .byte n f) {j : Int32} (i : Nat) (q : j.toInt = (i : Int)) (hi : i < n) {pc : Nat} {Ls : Array Slot} {rest : List Value} (hd : decode c.code pc = .ok (.baload, 1)) :
    ∀ t, Steps p.tables e below (T.setTop (mkF m (pc + 1) Ls (f i :: rest))) t → Steps p.tables e below (T.setTop (mkF m pc Ls (.int j :: .ref a :: rest))) t := fun t kt => by
  obtain ⟨cl, A, r1, r2, r3, r4⟩ := F
  exact X.baloadBytes hx (j := j) (v := f i) (by rw [eT]; exact A.1) (State.isArrayOf_alike hZ.alike A.2.1) A.2.2 (own_in q hi r2) (by rw [own_jn q]; exact r4 i hi) (g := mkF m pc Ls (.int j :: .ref a :: rest)) rfl rfl hd _ kt
theorem own_ldC (X : Stand p l e R s m args below meth c T locs cells slots) (hx : p.tables.exec = Jvm.exec) (hZ : Z.Warmed39 s.vm) (eT : T.heap = h) (F : own_A Z h a k .char n f) {j : Int32} (i : Nat) (q : j.toInt = (i : Int)) (hi : i < n) {pc : Nat} {Ls : Array Slot} {rest : List Value} (hd : decode c.code pc = .ok (.caload, 1)) :
    ∀ t, Steps p.tables e below (T.setTop (mkF m (pc + 1) Ls (f i :: rest))) t → Steps p.tables e below (T.setTop (mkF m pc Ls (.int j :: .ref a :: rest))) t := fun t kt => by
  obtain ⟨cl, A, r1, r2, r3, r4⟩ := F
  exact X.caload hx (j := j) (v := f i) (by rw [eT]; exact A.1) (State.isArrayOf_alike hZ.alike A.2.1) A.2.2 (own_in q hi r2) (by rw [own_jn q]; exact r4 i hi) (g := mkF m pc Ls (.int j :: .ref a :: rest)) rfl rfl hd _ kt
theorem own_ldR (X : Stand p l e R s m args below meth c T locs cells slots) (hx : p.tables.exec = Jvm.exec) (hZ : Z.Warmed39 s.vm) (eT : T.heap = h) (F : own_A Z h a k ty n f) (hty : ty.isReference = true) {j : Int32} (i : Nat) (q : j.toInt = (i : Int)) (hi : i < n) {pc : Nat} {Ls : Array Slot} {rest : List Value} (hd : decode c.code pc = .ok (.aaload, 1)) :
    ∀ t, Steps p.tables e below (T.setTop (mkF m (pc + 1) Ls (f i :: rest))) t → Steps p.tables e below (T.setTop (mkF m pc Ls (.int j :: .ref a :: rest))) t := fun t kt => by
  obtain ⟨cl, A, r1, r2, r3, r4⟩ := F
  exact X.aaload hx (j := j) (v := f i) (by rw [eT]; exact A.1) (State.isArrayOf_alike hZ.alike A.2.1) hty A.2.2 (own_in q hi r2) (by rw [own_jn q]; exact r4 i hi) (g := mkF m pc Ls (.int j :: .ref a :: rest)) rfl rfl hd _ kt
theorem own_len (X : Stand p l e R s m args below meth c T locs cells slots) (hx : p.tables.exec = Jvm.exec) (hZ : Z.Warmed39 s.vm) (eT : T.heap = h) (F : own_A Z h a k ty n f) {pc : Nat} {Ls : Array Slot} {rest : List Value} (hd : decode c.code pc = .ok (.arraylength, 1)) (z : Int32) (hz : z.toInt = (n : Int)) :
    ∀ t, Steps p.tables e below (T.setTop (mkF m (pc + 1) Ls (.int z :: rest))) t → Steps p.tables e below (T.setTop (mkF m pc Ls (.ref a :: rest))) t := fun t kt => by
  obtain ⟨cl, A, r1, r2, r3, r4⟩ := F
  have q : cl.slots.size.toInt32 = z := by
    apply Int32.toInt_inj.mp; rw [r2, hz]; exact len_toInt r3
  exact X.arraylength hx (by rw [eT]; exact A.1) (State.isArrayOf_alike hZ.alike A.2.1) (g := mkF m pc Ls (.ref a :: rest)) rfl rfl hd _ (by rw [q]; exact kt)
theorem own_nb (x : Int32) : nar .byte x.toInt8.toInt32 = x.toInt8.toInt32 := by simp [nar]
theorem own_nc (x : Int32) : nar .char x.toUInt32.toUInt16.toUInt32.toInt32 = x.toUInt32.toUInt16.toUInt32.toInt32 := by
  have := Jvm.Free.XT.narrow_c x
  simpa [nar, narrow] using this
theorem own_nz {z : Int32} (q : z = 0 ∨ z = 1) : nar .boolean z = z := by rcases q with rfl | rfl <;> rfl
theorem own_bt {P : Prop} [Decidable P] (q : P) : ¬ ((if P then (1 : Int32) else 0) = 0) := by simp [q]
theorem own_bf {P : Prop} [Decidable P] (q : ¬ P) : (if P then (1 : Int32) else 0) = 0 := by simp [q]
theorem own_nt {P : Prop} [Decidable P] (q : P) : (if P then (0 : Int32) else 1) = 0 := by simp [q]
theorem own_nf {P : Prop} [Decidable P] (q : ¬ P) : ¬ ((if P then (0 : Int32) else 1) = 0) := by simp [q]
theorem own_lrem {target : State} (X : Stand p l e R s m args below meth c T locs cells slots) (hx : p.tables.exec = Jvm.exec) (hg : g.method = m) {x y : Int64} {rest : List Value} (hd : decode c.code g.pc = .ok (.lrem, 1)) (hs : g.stack = .long y :: .long x :: rest) (hy : y ≠ 0)
    (hr : Steps p.tables e below (T.setTop { g with pc := g.pc + 1, stack := .long (x % y) :: rest }) target) : Steps p.tables e below (T.setTop g) target := XS.lrem X.here hx hg hd hs hy (by rw [lrem_mod]; exact hr)
end OwnKit
def f1 (x y : Int32) : Int32 := (x &&& 255) ||| ((y &&& 255) <<< ((8 : Int32) &&& 31))
theorem dprog_19_method_19_code_0 : decode prog_19_method_19_code 0 = .ok (.aload_n 0, 1) := by decide +kernel
theorem dprog_19_method_19_code_1 : decode prog_19_method_19_code 1 = .ok (.iload_n 1, 1) := by decide +kernel
theorem dprog_19_method_19_code_2 : decode prog_19_method_19_code 2 = .ok (.baload, 1) := by decide +kernel
theorem dprog_19_method_19_code_3 : decode prog_19_method_19_code 3 = .ok (.sipush 255, 3) := by decide +kernel
theorem dprog_19_method_19_code_6 : decode prog_19_method_19_code 6 = .ok (.iand, 1) := by decide +kernel
theorem dprog_19_method_19_code_7 : decode prog_19_method_19_code 7 = .ok (.aload_n 0, 1) := by decide +kernel
theorem dprog_19_method_19_code_8 : decode prog_19_method_19_code 8 = .ok (.iload_n 1, 1) := by decide +kernel
theorem dprog_19_method_19_code_9 : decode prog_19_method_19_code 9 = .ok (.iconst 1, 1) := by decide +kernel
theorem dprog_19_method_19_code_10 : decode prog_19_method_19_code 10 = .ok (.iadd, 1) := by decide +kernel
theorem dprog_19_method_19_code_11 : decode prog_19_method_19_code 11 = .ok (.baload, 1) := by decide +kernel
theorem dprog_19_method_19_code_12 : decode prog_19_method_19_code 12 = .ok (.sipush 255, 3) := by decide +kernel
theorem dprog_19_method_19_code_15 : decode prog_19_method_19_code 15 = .ok (.iand, 1) := by decide +kernel
theorem dprog_19_method_19_code_16 : decode prog_19_method_19_code 16 = .ok (.bipush 8, 2) := by decide +kernel
theorem dprog_19_method_19_code_18 : decode prog_19_method_19_code 18 = .ok (.ishl, 1) := by decide +kernel
theorem dprog_19_method_19_code_19 : decode prog_19_method_19_code 19 = .ok (.ior, 1) := by decide +kernel
theorem dprog_19_method_19_code_20 : decode prog_19_method_19_code 20 = .ok (.ireturn, 1) := by decide +kernel
theorem ef_rm1 (m_ : MethodId) (a : Addr) (off : Int32) : entryFrame m_ #[(.ref a), (.int off)] 2 = mkF m_ 0 #[.val (.ref a), .val (.int off)] [] := by first | (simp [entryFrame, mkF, argsToLocals, Value.category]; done) | rfl
theorem own_pn0 : plainName "com/example/adapterd/adapterd/controller/HciPacket" = true := by first | (simp [plainName, overriddenIn]; done) | decide +kernel
set_option maxRecDepth 65536 in
set_option maxHeartbeats 40000000 in
theorem rm1 (l : Launch) (Z : State) (a0 : Array Value) (hw : ∀ d ∈ tables_1, d.before a0 Z = true) (a : Addr) (off : Int32) (k : ClassId) (n : Nat) (f : Nat → Int32) (i : Nat) (h0 : Heap) (n0 : Nat) (Z0 : n0 ≤ h0.size) (V : own_A Z h0 a k .byte n (fun x => .int (f x))) (hi : off.toInt = (i : Int)) (hn : i + 1 < n) (hsm : i < 1000) :
    own_Met l Z (⟨"com/example/adapterd/adapterd/controller/HciPacket", "uint16", "([BI)I"⟩ : MethodName) prog_19_method_19_code 2 (some .int) ({ frames := 0, cells := 0, slots := 0, locals := 0 } : Room) #[(.ref a), (.int off)] h0 (fun v h L => v = some (.int (f1 (f i) (f (i + 1)))) ∧ Fr n0 L ∧ h = h0) := by
  refine own_body #[.val (.ref a), .val (.int off)] (plainFor_of_name own_pn0) (fun m_ => ef_rm1 m_ a off) ?_
  intro p_ e_ s_ m_ below meth c_ s₁ X0 hx hby hml hret hlk hZ hown hnm e0
  have N0 := Fr.nil n0
  show own_Out p_ e_ below s_ _ _ _ s₁ (mkF m_ 0 #[.val (.ref a), .val (.int off)] [])
  refine own_st s₁ (mkF m_ 20 #[.val (.ref a), .val (.int off)] [(.int (((f i) &&& (255 : Int32)) ||| (((f (i + 1)) &&& (255 : Int32)) <<< ((8 : Int32) &&& 31))))]) (fun t_ k_ => ?_) ?_
  · refine XS.aloadN X0.here hx rfl (hb hby dprog_19_method_19_code_0) rfl rfl ?_
    show Steps p_.tables e_ below (s₁.setTop (mkF m_ 1 #[.val (.ref a), .val (.int off)] [(.ref a)])) t_
    refine XS.iloadN X0.here hx rfl (hb hby dprog_19_method_19_code_1) rfl ?_
    show Steps p_.tables e_ below (s₁.setTop (mkF m_ 2 #[.val (.ref a), .val (.int off)] [(.int off), (.ref a)])) t_
    refine own_ldB X0 hx hZ e0 V i hi (by omega) (hb hby dprog_19_method_19_code_2) _ ?_
    show Steps p_.tables e_ below (s₁.setTop (mkF m_ 3 #[.val (.ref a), .val (.int off)] [(.int (f i))])) t_
    refine XS.sipush X0.here hx rfl (hb hby dprog_19_method_19_code_3) ?_
    show Steps p_.tables e_ below (s₁.setTop (mkF m_ 6 #[.val (.ref a), .val (.int off)] [(.int (255 : Int32)), (.int (f i))])) t_
    refine XS.iand X0.here hx rfl (hb hby dprog_19_method_19_code_6) rfl ?_
    show Steps p_.tables e_ below (s₁.setTop (mkF m_ 7 #[.val (.ref a), .val (.int off)] [(.int ((f i) &&& (255 : Int32)))])) t_
    refine XS.aloadN X0.here hx rfl (hb hby dprog_19_method_19_code_7) rfl rfl ?_
    show Steps p_.tables e_ below (s₁.setTop (mkF m_ 8 #[.val (.ref a), .val (.int off)] [(.ref a), (.int ((f i) &&& (255 : Int32)))])) t_
    refine XS.iloadN X0.here hx rfl (hb hby dprog_19_method_19_code_8) rfl ?_
    show Steps p_.tables e_ below (s₁.setTop (mkF m_ 9 #[.val (.ref a), .val (.int off)] [(.int off), (.ref a), (.int ((f i) &&& (255 : Int32)))])) t_
    refine XS.iconst X0.here hx rfl (hb hby dprog_19_method_19_code_9) ?_
    show Steps p_.tables e_ below (s₁.setTop (mkF m_ 10 #[.val (.ref a), .val (.int off)] [(.int (1 : Int32)), (.int off), (.ref a), (.int ((f i) &&& (255 : Int32)))])) t_
    refine XS.iadd X0.here hx rfl (hb hby dprog_19_method_19_code_10) rfl ?_
    show Steps p_.tables e_ below (s₁.setTop (mkF m_ 11 #[.val (.ref a), .val (.int off)] [(.int (off + (1 : Int32))), (.ref a), (.int ((f i) &&& (255 : Int32)))])) t_
    refine own_ldB X0 hx hZ e0 V (i + 1) (by have := rng32 (off + 1); have := c_iadd off 1; have : (1 : Int32).toInt = 1 := rfl; omega) hn (hb hby dprog_19_method_19_code_11) _ ?_
    show Steps p_.tables e_ below (s₁.setTop (mkF m_ 12 #[.val (.ref a), .val (.int off)] [(.int (f (i + 1))), (.int ((f i) &&& (255 : Int32)))])) t_
    refine XS.sipush X0.here hx rfl (hb hby dprog_19_method_19_code_12) ?_
    show Steps p_.tables e_ below (s₁.setTop (mkF m_ 15 #[.val (.ref a), .val (.int off)] [(.int (255 : Int32)), (.int (f (i + 1))), (.int ((f i) &&& (255 : Int32)))])) t_
    refine XS.iand X0.here hx rfl (hb hby dprog_19_method_19_code_15) rfl ?_
    show Steps p_.tables e_ below (s₁.setTop (mkF m_ 16 #[.val (.ref a), .val (.int off)] [(.int ((f (i + 1)) &&& (255 : Int32))), (.int ((f i) &&& (255 : Int32)))])) t_
    refine XS.bipush X0.here hx rfl (hb hby dprog_19_method_19_code_16) ?_
    show Steps p_.tables e_ below (s₁.setTop (mkF m_ 18 #[.val (.ref a), .val (.int off)] [(.int (8 : Int32)), (.int ((f (i + 1)) &&& (255 : Int32))), (.int ((f i) &&& (255 : Int32)))])) t_
    refine XS.ishl X0.here hx rfl (hb hby dprog_19_method_19_code_18) rfl ?_
    show Steps p_.tables e_ below (s₁.setTop (mkF m_ 19 #[.val (.ref a), .val (.int off)] [(.int (((f (i + 1)) &&& (255 : Int32)) <<< ((8 : Int32) &&& 31))), (.int ((f i) &&& (255 : Int32)))])) t_
    refine XS.ior X0.here hx rfl (hb hby dprog_19_method_19_code_19) rfl ?_
    show Steps p_.tables e_ below (s₁.setTop (mkF m_ 20 #[.val (.ref a), .val (.int off)] [(.int (((f i) &&& (255 : Int32)) ||| (((f (i + 1)) &&& (255 : Int32)) <<< ((8 : Int32) &&& 31))))])) t_
    exact k_
  refine own_retI X0 hx hlk hret (hb hby dprog_19_method_19_code_20) (by decide) (by decide) ?_
  rw [e0]
  exact ⟨rfl, N0, rfl⟩
def own_o (off : Int32) : Int32 := ((off &&& (2147483647 : Int32)) % (3 : Int32))
def own_i (off : Int32) : Nat := (own_o off).toNatClampNeg
theorem own_i0 (off : Int32) : 0 ≤ (own_o off).toInt ∧ (own_o off).toInt < 3 := by
  have h1 := c_and off 2147483647 (by decide)
  have h2 := c_iremV (off &&& 2147483647) 3
  have : (3 : Int32).toInt = 3 := rfl
  unfold own_o
  omega
theorem own_i1 (off : Int32) : (own_o off).toInt = (own_i off : Int) := by
  have := own_i0 off
  unfold own_i; simp only [Int32.toNatClampNeg]; omega
theorem own_i2 (off : Int32) : own_i off < 3 := by
  have := own_i0 off; have := own_i1 off; omega
theorem own_i3 (off : Int32) : (own_o off + 1).toInt = ((own_i off + 1 : Nat) : Int) := by
  have := own_i0 off; have := own_i1 off; have := c_iadd (own_o off) 1; have : (1 : Int32).toInt = 1 := rfl
  have := rng32 (own_o off + 1)
  omega
theorem own_two (V : Int32) (h : 0 ≤ V.toInt ∧ V.toInt ≤ 65535) : f1 (V.toInt8.toInt32) ((V >>> ((8 : Int32) &&& 31)).toInt8.toInt32) = V := by
  unfold f1
  have a1 := c_i2b V
  have a2 := c_mask V.toInt8.toInt32 255 8 (by decide) (by decide)
  have a3 := c_ishr V 8 8 (by decide)
  have a4 := c_i2b (V >>> ((8 : Int32) &&& 31))
  have a5 := c_mask (V >>> ((8 : Int32) &&& 31)).toInt8.toInt32 255 8 (by decide) (by decide)
  have a6 := c_ishl ((V >>> ((8 : Int32) &&& 31)).toInt8.toInt32 &&& 255) 8 8 (by decide)
  have a7 := rng32 (((V >>> ((8 : Int32) &&& 31)).toInt8.toInt32 &&& 255) <<< ((8 : Int32) &&& 31))
  have a8 := c_or' (V.toInt8.toInt32 &&& 255) (((V >>> ((8 : Int32) &&& 31)).toInt8.toInt32 &&& 255) <<< ((8 : Int32) &&& 31)) 8 (by decide) 256 (by decide)
  have a9 := rng32 ((V.toInt8.toInt32 &&& 255) ||| (((V >>> ((8 : Int32) &&& 31)).toInt8.toInt32 &&& 255) <<< ((8 : Int32) &&& 31)))
  apply Int32.toInt_inj.mp
  simp only [show ((2 ^ 8 : Nat) : Int) = 256 from rfl] at a2 a3 a5 a6
  have b1 := a8 (by omega) (by omega) (by omega)
  omega

def own_v (v : Int32) : Int32 := (v &&& (65535 : Int32))
def own_b1 (v : Int32) (off : Int32) (a : Int32) (b : Int32) (x : Nat) : Int32 := if x = (own_i off) then ((own_v v).toInt8.toInt32) else (([(a.toInt8.toInt32), ((a >>> ((8 : Int32) &&& 31)).toInt8.toInt32), (b.toInt8.toInt32), ((b >>> ((8 : Int32) &&& 31)).toInt8.toInt32)] : List Int32).getD x 0)
def own_b2 (v : Int32) (off : Int32) (a : Int32) (b : Int32) (x : Nat) : Int32 := if x = ((own_i off) + 1) then (((own_v v) >>> ((8 : Int32) &&& 31)).toInt8.toInt32) else (own_b1 v off a b x)
theorem own_pd0 : parseMethodDescriptor "([BI)I" = some ⟨[(.array .byte), .int], some .int⟩ := by decide +kernel
theorem own_fin (v off a b : Int32) : (if (f1 (own_b2 v off a b (own_i off)) (own_b2 v off a b ((own_i off) + 1))) = (own_v v) then (1 : Int32) else 0) = 1 := by
  have e1 : own_b2 v off a b (own_i off) = (own_v v).toInt8.toInt32 := by
    unfold own_b2 own_b1; rw [if_neg (by omega), if_pos rfl]
  have e2 : own_b2 v off a b ((own_i off) + 1) = ((own_v v) >>> ((8 : Int32) &&& 31)).toInt8.toInt32 := by
    unfold own_b2; rw [if_pos rfl]
  have h : 0 ≤ (own_v v).toInt ∧ (own_v v).toInt ≤ 65535 := c_and v 65535 (by decide)
  rw [e1, e2, if_pos (own_two _ h)]

theorem own_law (v off a b : Int32) : (if (f1 (own_b2 v off a b (own_i off)) (own_b2 v off a b ((own_i off) + 1))) = (own_v v) then (1 : Int32) else 0) = 1 := own_fin v off a b
theorem ef_rm0 (m_ : MethodId) (v : Int32) (off : Int32) (a : Int32) (b : Int32) : entryFrame m_ #[(.int v), (.int off), (.int a), (.int b)] maxLocals = mkF m_ 0 #[.val (.int v), .val (.int off), .val (.int a), .val (.int b), .unset, .unset, .unset, .unset] [] := by first | (simp [entryFrame, mkF, argsToLocals, Value.category, maxLocals]; done) | rfl
theorem own_pn1 : plainName "com/example/adapterd/adapterd/controller/HciPacketUint16PinLaw" = true := by first | (simp [plainName, overriddenIn]; done) | decide +kernel
set_option maxRecDepth 65536 in
set_option maxHeartbeats 40000000 in
theorem rm0 (l : Launch) (Z : State) (a0 : Array Value) (hw : ∀ d ∈ tables_1, d.before a0 Z = true) (v : Int32) (off : Int32) (a : Int32) (b : Int32) (h0 : Heap) (n0 : Nat) (Z0 : n0 ≤ h0.size)  :
    own_Met l Z x code maxLocals ret room_1 #[(.int v), (.int off), (.int a), (.int b)] h0 (fun v h L => v = some (.int 1) ∧ Fr n0 L) := by
  refine own_body #[.val (.int v), .val (.int off), .val (.int a), .val (.int b), .unset, .unset, .unset, .unset] (plainFor_of_name own_pn1) (fun m_ => ef_rm0 m_ v off a b) ?_
  intro p_ e_ s_ m_ below meth c_ s₁ X0 hx hby hml hret hlk hZ hown hnm e0
  have N0 := Fr.nil n0
  show own_Out p_ e_ below s_ _ _ _ s₁ (mkF m_ 0 #[.val (.int v), .val (.int off), .val (.int a), .val (.int b), .unset, .unset, .unset, .unset] [])
  refine own_st s₁ (mkF m_ 15 #[.val (.int v), .val (.int off), .val (.int a), .val (.int b), .val (.int (own_v v)), .val (.int (own_o off)), .unset, .unset] [(.int (4 : Int32))]) (fun t_ k_ => ?_) ?_
  · refine XS.iloadN X0.here hx rfl (hb hby at_0) rfl ?_
    show Steps p_.tables e_ below (s₁.setTop (mkF m_ 1 #[.val (.int v), .val (.int off), .val (.int a), .val (.int b), .unset, .unset, .unset, .unset] [(.int v)])) t_
    refine X0.ldcInt hx hown (mvT hZ (hw _ (List.mem_of_getElem? (i := 0) rfl))) (g := (mkF m_ 1 #[.val (.int v), .val (.int off), .val (.int a), .val (.int b), .unset, .unset, .unset, .unset] [(.int v)])) rfl (hb hby at_1) _ ?_
    show Steps p_.tables e_ below (s₁.setTop (mkF m_ 3 #[.val (.int v), .val (.int off), .val (.int a), .val (.int b), .unset, .unset, .unset, .unset] [(.int (65535 : Int32)), (.int v)])) t_
    refine XS.iand X0.here hx rfl (hb hby at_3) rfl ?_
    show Steps p_.tables e_ below (s₁.setTop (mkF m_ 4 #[.val (.int v), .val (.int off), .val (.int a), .val (.int b), .unset, .unset, .unset, .unset] [(.int (own_v v))])) t_
    refine XS.istore X0.here hx rfl (hb hby at_4) rfl (l' := #[.val (.int v), .val (.int off), .val (.int a), .val (.int b), .val (.int (own_v v)), .unset, .unset, .unset]) rfl ?_
    show Steps p_.tables e_ below (s₁.setTop (mkF m_ 6 #[.val (.int v), .val (.int off), .val (.int a), .val (.int b), .val (.int (own_v v)), .unset, .unset, .unset] [])) t_
    refine XS.iloadN X0.here hx rfl (hb hby at_6) rfl ?_
    show Steps p_.tables e_ below (s₁.setTop (mkF m_ 7 #[.val (.int v), .val (.int off), .val (.int a), .val (.int b), .val (.int (own_v v)), .unset, .unset, .unset] [(.int off)])) t_
    refine X0.ldcInt hx hown (mvT hZ (hw _ (List.mem_of_getElem? (i := 1) rfl))) (g := (mkF m_ 7 #[.val (.int v), .val (.int off), .val (.int a), .val (.int b), .val (.int (own_v v)), .unset, .unset, .unset] [(.int off)])) rfl (hb hby at_7) _ ?_
    show Steps p_.tables e_ below (s₁.setTop (mkF m_ 9 #[.val (.int v), .val (.int off), .val (.int a), .val (.int b), .val (.int (own_v v)), .unset, .unset, .unset] [(.int (2147483647 : Int32)), (.int off)])) t_
    refine XS.iand X0.here hx rfl (hb hby at_9) rfl ?_
    show Steps p_.tables e_ below (s₁.setTop (mkF m_ 10 #[.val (.int v), .val (.int off), .val (.int a), .val (.int b), .val (.int (own_v v)), .unset, .unset, .unset] [(.int (off &&& (2147483647 : Int32)))])) t_
    refine XS.iconst X0.here hx rfl (hb hby at_10) ?_
    show Steps p_.tables e_ below (s₁.setTop (mkF m_ 11 #[.val (.int v), .val (.int off), .val (.int a), .val (.int b), .val (.int (own_v v)), .unset, .unset, .unset] [(.int (3 : Int32)), (.int (off &&& (2147483647 : Int32)))])) t_
    refine iremM X0 hx rfl (hb hby at_11) rfl (by decide) ?_
    show Steps p_.tables e_ below (s₁.setTop (mkF m_ 12 #[.val (.int v), .val (.int off), .val (.int a), .val (.int b), .val (.int (own_v v)), .unset, .unset, .unset] [(.int (own_o off))])) t_
    refine XS.istore X0.here hx rfl (hb hby at_12) rfl (l' := #[.val (.int v), .val (.int off), .val (.int a), .val (.int b), .val (.int (own_v v)), .val (.int (own_o off)), .unset, .unset]) rfl ?_
    show Steps p_.tables e_ below (s₁.setTop (mkF m_ 14 #[.val (.int v), .val (.int off), .val (.int a), .val (.int b), .val (.int (own_v v)), .val (.int (own_o off)), .unset, .unset] [])) t_
    refine XS.iconst X0.here hx rfl (hb hby at_14) ?_
    show Steps p_.tables e_ below (s₁.setTop (mkF m_ 15 #[.val (.int v), .val (.int off), .val (.int a), .val (.int b), .val (.int (own_v v)), .val (.int (own_o off)), .unset, .unset] [(.int (4 : Int32))])) t_
    exact k_
  obtain ⟨T1, h1, k1, X1, e1, E1, A1, st1⟩ := newP X0 hx hZ (hw _ (List.mem_of_getElem? (i := 2) rfl)) e0 (g := (mkF m_ 15 #[.val (.int v), .val (.int off), .val (.int a), .val (.int b), .val (.int (own_v v)), .val (.int (own_o off)), .unset, .unset] [(.int (4 : Int32))])) rfl (hb hby at_15) rfl (by decide) (cap := 4) (by decide) (by decide) (by decide) (by decide)
  obtain ⟨b1, g1⟩ : ∃ z, z = h0.size := ⟨_, rfl⟩
  rw [← g1] at A1 st1
  have g_b1 : n0 ≤ b1 := g1 ▸ Z0
  replace Z0 : n0 ≤ h1.size := Nat.le_trans Z0 E1.1
  have A_b1 : own_A Z h1 b1 k1 .byte 4 (fun x => .int (([(0 : Int32), (0 : Int32), (0 : Int32), (0 : Int32)] : List Int32).getD x 0)) := own_A.newLI A1 (by decide) 4 (by decide) rfl
  refine own_st T1 (mkF m_ 17 #[.val (.int v), .val (.int off), .val (.int a), .val (.int b), .val (.int (own_v v)), .val (.int (own_o off)), .unset, .unset] [(.ref b1)]) st1 ?_
  refine own_st T1 (mkF m_ 24 #[.val (.int v), .val (.int off), .val (.int a), .val (.int b), .val (.int (own_v v)), .val (.int (own_o off)), .val (.ref b1), .unset] [(.int (a.toInt8.toInt32)), (.int (0 : Int32)), (.ref b1)]) (fun t_ k_ => ?_) ?_
  · refine XS.astore X1.here hx rfl (hb hby at_17) rfl rfl (l' := #[.val (.int v), .val (.int off), .val (.int a), .val (.int b), .val (.int (own_v v)), .val (.int (own_o off)), .val (.ref b1), .unset]) rfl ?_
    show Steps p_.tables e_ below (T1.setTop (mkF m_ 19 #[.val (.int v), .val (.int off), .val (.int a), .val (.int b), .val (.int (own_v v)), .val (.int (own_o off)), .val (.ref b1), .unset] [])) t_
    refine XS.aload X1.here hx rfl (hb hby at_19) rfl rfl ?_
    show Steps p_.tables e_ below (T1.setTop (mkF m_ 21 #[.val (.int v), .val (.int off), .val (.int a), .val (.int b), .val (.int (own_v v)), .val (.int (own_o off)), .val (.ref b1), .unset] [(.ref b1)])) t_
    refine XS.iconst X1.here hx rfl (hb hby at_21) ?_
    show Steps p_.tables e_ below (T1.setTop (mkF m_ 22 #[.val (.int v), .val (.int off), .val (.int a), .val (.int b), .val (.int (own_v v)), .val (.int (own_o off)), .val (.ref b1), .unset] [(.int (0 : Int32)), (.ref b1)])) t_
    refine XS.iloadN X1.here hx rfl (hb hby at_22) rfl ?_
    show Steps p_.tables e_ below (T1.setTop (mkF m_ 23 #[.val (.int v), .val (.int off), .val (.int a), .val (.int b), .val (.int (own_v v)), .val (.int (own_o off)), .val (.ref b1), .unset] [(.int a), (.int (0 : Int32)), (.ref b1)])) t_
    refine XS.i2b X1.here hx rfl (hb hby at_23) rfl ?_
    show Steps p_.tables e_ below (T1.setTop (mkF m_ 24 #[.val (.int v), .val (.int off), .val (.int a), .val (.int b), .val (.int (own_v v)), .val (.int (own_o off)), .val (.ref b1), .unset] [(.int (a.toInt8.toInt32)), (.int (0 : Int32)), (.ref b1)])) t_
    exact k_
  obtain ⟨T2, h2, X2, e2, W2, st2⟩ := own_stB X1 hx hZ e1 A_b1 (a.toInt8.toInt32) (own_nb _) 0 (by decide) (by decide) (j := (0 : Int32)) (x := (a.toInt8.toInt32)) (Ls := #[.val (.int v), .val (.int off), .val (.int a), .val (.int b), .val (.int (own_v v)), .val (.int (own_o off)), .val (.ref b1), .unset]) (rest := []) (hb hby at_24)
  have N2 := Fr.snoc X2 N0 g_b1
  replace Z0 : n0 ≤ h2.size := W2.size ▸ Z0
  replace A_b1 : own_A Z h2 b1 k1 .byte 4 (fun x => .int (([(a.toInt8.toInt32), (0 : Int32), (0 : Int32), (0 : Int32)] : List Int32).getD x 0)) := A_b1.setLI (by decide) (Nat.le_of_ble_eq_true rfl) W2
  refine own_st T2 (mkF m_ 25 #[.val (.int v), .val (.int off), .val (.int a), .val (.int b), .val (.int (own_v v)), .val (.int (own_o off)), .val (.ref b1), .unset] []) st2 ?_
  refine own_st T2 (mkF m_ 33 #[.val (.int v), .val (.int off), .val (.int a), .val (.int b), .val (.int (own_v v)), .val (.int (own_o off)), .val (.ref b1), .unset] [(.int ((a >>> ((8 : Int32) &&& 31)).toInt8.toInt32)), (.int (1 : Int32)), (.ref b1)]) (fun t_ k_ => ?_) ?_
  · refine XS.aload X2.here hx rfl (hb hby at_25) rfl rfl ?_
    show Steps p_.tables e_ below (T2.setTop (mkF m_ 27 #[.val (.int v), .val (.int off), .val (.int a), .val (.int b), .val (.int (own_v v)), .val (.int (own_o off)), .val (.ref b1), .unset] [(.ref b1)])) t_
    refine XS.iconst X2.here hx rfl (hb hby at_27) ?_
    show Steps p_.tables e_ below (T2.setTop (mkF m_ 28 #[.val (.int v), .val (.int off), .val (.int a), .val (.int b), .val (.int (own_v v)), .val (.int (own_o off)), .val (.ref b1), .unset] [(.int (1 : Int32)), (.ref b1)])) t_
    refine XS.iloadN X2.here hx rfl (hb hby at_28) rfl ?_
    show Steps p_.tables e_ below (T2.setTop (mkF m_ 29 #[.val (.int v), .val (.int off), .val (.int a), .val (.int b), .val (.int (own_v v)), .val (.int (own_o off)), .val (.ref b1), .unset] [(.int a), (.int (1 : Int32)), (.ref b1)])) t_
    refine XS.bipush X2.here hx rfl (hb hby at_29) ?_
    show Steps p_.tables e_ below (T2.setTop (mkF m_ 31 #[.val (.int v), .val (.int off), .val (.int a), .val (.int b), .val (.int (own_v v)), .val (.int (own_o off)), .val (.ref b1), .unset] [(.int (8 : Int32)), (.int a), (.int (1 : Int32)), (.ref b1)])) t_
    refine XS.ishr X2.here hx rfl (hb hby at_31) rfl ?_
    show Steps p_.tables e_ below (T2.setTop (mkF m_ 32 #[.val (.int v), .val (.int off), .val (.int a), .val (.int b), .val (.int (own_v v)), .val (.int (own_o off)), .val (.ref b1), .unset] [(.int (a >>> ((8 : Int32) &&& 31))), (.int (1 : Int32)), (.ref b1)])) t_
    refine XS.i2b X2.here hx rfl (hb hby at_32) rfl ?_
    show Steps p_.tables e_ below (T2.setTop (mkF m_ 33 #[.val (.int v), .val (.int off), .val (.int a), .val (.int b), .val (.int (own_v v)), .val (.int (own_o off)), .val (.ref b1), .unset] [(.int ((a >>> ((8 : Int32) &&& 31)).toInt8.toInt32)), (.int (1 : Int32)), (.ref b1)])) t_
    exact k_
  obtain ⟨T3, h3, X3, e3, W3, st3⟩ := own_stB X2 hx hZ e2 A_b1 ((a >>> ((8 : Int32) &&& 31)).toInt8.toInt32) (own_nb _) 1 (by decide) (by decide) (j := (1 : Int32)) (x := ((a >>> ((8 : Int32) &&& 31)).toInt8.toInt32)) (Ls := #[.val (.int v), .val (.int off), .val (.int a), .val (.int b), .val (.int (own_v v)), .val (.int (own_o off)), .val (.ref b1), .unset]) (rest := []) (hb hby at_33)
  have N3 := Fr.snoc X3 N2 g_b1
  replace Z0 : n0 ≤ h3.size := W3.size ▸ Z0
  replace A_b1 : own_A Z h3 b1 k1 .byte 4 (fun x => .int (([(a.toInt8.toInt32), ((a >>> ((8 : Int32) &&& 31)).toInt8.toInt32), (0 : Int32), (0 : Int32)] : List Int32).getD x 0)) := A_b1.setLI (by decide) (Nat.le_of_ble_eq_true rfl) W3
  refine own_st T3 (mkF m_ 34 #[.val (.int v), .val (.int off), .val (.int a), .val (.int b), .val (.int (own_v v)), .val (.int (own_o off)), .val (.ref b1), .unset] []) st3 ?_
  refine own_st T3 (mkF m_ 39 #[.val (.int v), .val (.int off), .val (.int a), .val (.int b), .val (.int (own_v v)), .val (.int (own_o off)), .val (.ref b1), .unset] [(.int (b.toInt8.toInt32)), (.int (2 : Int32)), (.ref b1)]) (fun t_ k_ => ?_) ?_
  · refine XS.aload X3.here hx rfl (hb hby at_34) rfl rfl ?_
    show Steps p_.tables e_ below (T3.setTop (mkF m_ 36 #[.val (.int v), .val (.int off), .val (.int a), .val (.int b), .val (.int (own_v v)), .val (.int (own_o off)), .val (.ref b1), .unset] [(.ref b1)])) t_
    refine XS.iconst X3.here hx rfl (hb hby at_36) ?_
    show Steps p_.tables e_ below (T3.setTop (mkF m_ 37 #[.val (.int v), .val (.int off), .val (.int a), .val (.int b), .val (.int (own_v v)), .val (.int (own_o off)), .val (.ref b1), .unset] [(.int (2 : Int32)), (.ref b1)])) t_
    refine XS.iloadN X3.here hx rfl (hb hby at_37) rfl ?_
    show Steps p_.tables e_ below (T3.setTop (mkF m_ 38 #[.val (.int v), .val (.int off), .val (.int a), .val (.int b), .val (.int (own_v v)), .val (.int (own_o off)), .val (.ref b1), .unset] [(.int b), (.int (2 : Int32)), (.ref b1)])) t_
    refine XS.i2b X3.here hx rfl (hb hby at_38) rfl ?_
    show Steps p_.tables e_ below (T3.setTop (mkF m_ 39 #[.val (.int v), .val (.int off), .val (.int a), .val (.int b), .val (.int (own_v v)), .val (.int (own_o off)), .val (.ref b1), .unset] [(.int (b.toInt8.toInt32)), (.int (2 : Int32)), (.ref b1)])) t_
    exact k_
  obtain ⟨T4, h4, X4, e4, W4, st4⟩ := own_stB X3 hx hZ e3 A_b1 (b.toInt8.toInt32) (own_nb _) 2 (by decide) (by decide) (j := (2 : Int32)) (x := (b.toInt8.toInt32)) (Ls := #[.val (.int v), .val (.int off), .val (.int a), .val (.int b), .val (.int (own_v v)), .val (.int (own_o off)), .val (.ref b1), .unset]) (rest := []) (hb hby at_39)
  have N4 := Fr.snoc X4 N3 g_b1
  replace Z0 : n0 ≤ h4.size := W4.size ▸ Z0
  replace A_b1 : own_A Z h4 b1 k1 .byte 4 (fun x => .int (([(a.toInt8.toInt32), ((a >>> ((8 : Int32) &&& 31)).toInt8.toInt32), (b.toInt8.toInt32), (0 : Int32)] : List Int32).getD x 0)) := A_b1.setLI (by decide) (Nat.le_of_ble_eq_true rfl) W4
  refine own_st T4 (mkF m_ 40 #[.val (.int v), .val (.int off), .val (.int a), .val (.int b), .val (.int (own_v v)), .val (.int (own_o off)), .val (.ref b1), .unset] []) st4 ?_
  refine own_st T4 (mkF m_ 48 #[.val (.int v), .val (.int off), .val (.int a), .val (.int b), .val (.int (own_v v)), .val (.int (own_o off)), .val (.ref b1), .unset] [(.int ((b >>> ((8 : Int32) &&& 31)).toInt8.toInt32)), (.int (3 : Int32)), (.ref b1)]) (fun t_ k_ => ?_) ?_
  · refine XS.aload X4.here hx rfl (hb hby at_40) rfl rfl ?_
    show Steps p_.tables e_ below (T4.setTop (mkF m_ 42 #[.val (.int v), .val (.int off), .val (.int a), .val (.int b), .val (.int (own_v v)), .val (.int (own_o off)), .val (.ref b1), .unset] [(.ref b1)])) t_
    refine XS.iconst X4.here hx rfl (hb hby at_42) ?_
    show Steps p_.tables e_ below (T4.setTop (mkF m_ 43 #[.val (.int v), .val (.int off), .val (.int a), .val (.int b), .val (.int (own_v v)), .val (.int (own_o off)), .val (.ref b1), .unset] [(.int (3 : Int32)), (.ref b1)])) t_
    refine XS.iloadN X4.here hx rfl (hb hby at_43) rfl ?_
    show Steps p_.tables e_ below (T4.setTop (mkF m_ 44 #[.val (.int v), .val (.int off), .val (.int a), .val (.int b), .val (.int (own_v v)), .val (.int (own_o off)), .val (.ref b1), .unset] [(.int b), (.int (3 : Int32)), (.ref b1)])) t_
    refine XS.bipush X4.here hx rfl (hb hby at_44) ?_
    show Steps p_.tables e_ below (T4.setTop (mkF m_ 46 #[.val (.int v), .val (.int off), .val (.int a), .val (.int b), .val (.int (own_v v)), .val (.int (own_o off)), .val (.ref b1), .unset] [(.int (8 : Int32)), (.int b), (.int (3 : Int32)), (.ref b1)])) t_
    refine XS.ishr X4.here hx rfl (hb hby at_46) rfl ?_
    show Steps p_.tables e_ below (T4.setTop (mkF m_ 47 #[.val (.int v), .val (.int off), .val (.int a), .val (.int b), .val (.int (own_v v)), .val (.int (own_o off)), .val (.ref b1), .unset] [(.int (b >>> ((8 : Int32) &&& 31))), (.int (3 : Int32)), (.ref b1)])) t_
    refine XS.i2b X4.here hx rfl (hb hby at_47) rfl ?_
    show Steps p_.tables e_ below (T4.setTop (mkF m_ 48 #[.val (.int v), .val (.int off), .val (.int a), .val (.int b), .val (.int (own_v v)), .val (.int (own_o off)), .val (.ref b1), .unset] [(.int ((b >>> ((8 : Int32) &&& 31)).toInt8.toInt32)), (.int (3 : Int32)), (.ref b1)])) t_
    exact k_
  obtain ⟨T5, h5, X5, e5, W5, st5⟩ := own_stB X4 hx hZ e4 A_b1 ((b >>> ((8 : Int32) &&& 31)).toInt8.toInt32) (own_nb _) 3 (by decide) (by decide) (j := (3 : Int32)) (x := ((b >>> ((8 : Int32) &&& 31)).toInt8.toInt32)) (Ls := #[.val (.int v), .val (.int off), .val (.int a), .val (.int b), .val (.int (own_v v)), .val (.int (own_o off)), .val (.ref b1), .unset]) (rest := []) (hb hby at_48)
  have N5 := Fr.snoc X5 N4 g_b1
  replace Z0 : n0 ≤ h5.size := W5.size ▸ Z0
  replace A_b1 : own_A Z h5 b1 k1 .byte 4 (fun x => .int (([(a.toInt8.toInt32), ((a >>> ((8 : Int32) &&& 31)).toInt8.toInt32), (b.toInt8.toInt32), ((b >>> ((8 : Int32) &&& 31)).toInt8.toInt32)] : List Int32).getD x 0)) := A_b1.setLI (by decide) (Nat.le_of_ble_eq_true rfl) W5
  refine own_st T5 (mkF m_ 49 #[.val (.int v), .val (.int off), .val (.int a), .val (.int b), .val (.int (own_v v)), .val (.int (own_o off)), .val (.ref b1), .unset] []) st5 ?_
  refine own_st T5 (mkF m_ 56 #[.val (.int v), .val (.int off), .val (.int a), .val (.int b), .val (.int (own_v v)), .val (.int (own_o off)), .val (.ref b1), .unset] [(.int ((own_v v).toInt8.toInt32)), (.int (own_o off)), (.ref b1)]) (fun t_ k_ => ?_) ?_
  · refine XS.aload X5.here hx rfl (hb hby at_49) rfl rfl ?_
    show Steps p_.tables e_ below (T5.setTop (mkF m_ 51 #[.val (.int v), .val (.int off), .val (.int a), .val (.int b), .val (.int (own_v v)), .val (.int (own_o off)), .val (.ref b1), .unset] [(.ref b1)])) t_
    refine XS.iload X5.here hx rfl (hb hby at_51) rfl ?_
    show Steps p_.tables e_ below (T5.setTop (mkF m_ 53 #[.val (.int v), .val (.int off), .val (.int a), .val (.int b), .val (.int (own_v v)), .val (.int (own_o off)), .val (.ref b1), .unset] [(.int (own_o off)), (.ref b1)])) t_
    refine XS.iload X5.here hx rfl (hb hby at_53) rfl ?_
    show Steps p_.tables e_ below (T5.setTop (mkF m_ 55 #[.val (.int v), .val (.int off), .val (.int a), .val (.int b), .val (.int (own_v v)), .val (.int (own_o off)), .val (.ref b1), .unset] [(.int (own_v v)), (.int (own_o off)), (.ref b1)])) t_
    refine XS.i2b X5.here hx rfl (hb hby at_55) rfl ?_
    show Steps p_.tables e_ below (T5.setTop (mkF m_ 56 #[.val (.int v), .val (.int off), .val (.int a), .val (.int b), .val (.int (own_v v)), .val (.int (own_o off)), .val (.ref b1), .unset] [(.int ((own_v v).toInt8.toInt32)), (.int (own_o off)), (.ref b1)])) t_
    exact k_
  obtain ⟨T6, h6, X6, e6, W6, st6⟩ := own_stB X5 hx hZ e5 A_b1 ((own_v v).toInt8.toInt32) (own_nb _) (own_i off) (own_i1 off) (by have := own_i2 off; omega) (j := (own_o off)) (x := ((own_v v).toInt8.toInt32)) (Ls := #[.val (.int v), .val (.int off), .val (.int a), .val (.int b), .val (.int (own_v v)), .val (.int (own_o off)), .val (.ref b1), .unset]) (rest := []) (hb hby at_56)
  have N6 := Fr.snoc X6 N5 g_b1
  replace Z0 : n0 ≤ h6.size := W6.size ▸ Z0
  replace A_b1 : own_A Z h6 b1 k1 .byte 4 (fun x => .int (own_b1 v off a b x)) := A_b1.setI (by have := own_i2 off; omega) W6
  refine own_st T6 (mkF m_ 57 #[.val (.int v), .val (.int off), .val (.int a), .val (.int b), .val (.int (own_v v)), .val (.int (own_o off)), .val (.ref b1), .unset] []) st6 ?_
  refine own_st T6 (mkF m_ 69 #[.val (.int v), .val (.int off), .val (.int a), .val (.int b), .val (.int (own_v v)), .val (.int (own_o off)), .val (.ref b1), .unset] [(.int (((own_v v) >>> ((8 : Int32) &&& 31)).toInt8.toInt32)), (.int ((own_o off) + (1 : Int32))), (.ref b1)]) (fun t_ k_ => ?_) ?_
  · refine XS.aload X6.here hx rfl (hb hby at_57) rfl rfl ?_
    show Steps p_.tables e_ below (T6.setTop (mkF m_ 59 #[.val (.int v), .val (.int off), .val (.int a), .val (.int b), .val (.int (own_v v)), .val (.int (own_o off)), .val (.ref b1), .unset] [(.ref b1)])) t_
    refine XS.iload X6.here hx rfl (hb hby at_59) rfl ?_
    show Steps p_.tables e_ below (T6.setTop (mkF m_ 61 #[.val (.int v), .val (.int off), .val (.int a), .val (.int b), .val (.int (own_v v)), .val (.int (own_o off)), .val (.ref b1), .unset] [(.int (own_o off)), (.ref b1)])) t_
    refine XS.iconst X6.here hx rfl (hb hby at_61) ?_
    show Steps p_.tables e_ below (T6.setTop (mkF m_ 62 #[.val (.int v), .val (.int off), .val (.int a), .val (.int b), .val (.int (own_v v)), .val (.int (own_o off)), .val (.ref b1), .unset] [(.int (1 : Int32)), (.int (own_o off)), (.ref b1)])) t_
    refine XS.iadd X6.here hx rfl (hb hby at_62) rfl ?_
    show Steps p_.tables e_ below (T6.setTop (mkF m_ 63 #[.val (.int v), .val (.int off), .val (.int a), .val (.int b), .val (.int (own_v v)), .val (.int (own_o off)), .val (.ref b1), .unset] [(.int ((own_o off) + (1 : Int32))), (.ref b1)])) t_
    refine XS.iload X6.here hx rfl (hb hby at_63) rfl ?_
    show Steps p_.tables e_ below (T6.setTop (mkF m_ 65 #[.val (.int v), .val (.int off), .val (.int a), .val (.int b), .val (.int (own_v v)), .val (.int (own_o off)), .val (.ref b1), .unset] [(.int (own_v v)), (.int ((own_o off) + (1 : Int32))), (.ref b1)])) t_
    refine XS.bipush X6.here hx rfl (hb hby at_65) ?_
    show Steps p_.tables e_ below (T6.setTop (mkF m_ 67 #[.val (.int v), .val (.int off), .val (.int a), .val (.int b), .val (.int (own_v v)), .val (.int (own_o off)), .val (.ref b1), .unset] [(.int (8 : Int32)), (.int (own_v v)), (.int ((own_o off) + (1 : Int32))), (.ref b1)])) t_
    refine XS.ishr X6.here hx rfl (hb hby at_67) rfl ?_
    show Steps p_.tables e_ below (T6.setTop (mkF m_ 68 #[.val (.int v), .val (.int off), .val (.int a), .val (.int b), .val (.int (own_v v)), .val (.int (own_o off)), .val (.ref b1), .unset] [(.int ((own_v v) >>> ((8 : Int32) &&& 31))), (.int ((own_o off) + (1 : Int32))), (.ref b1)])) t_
    refine XS.i2b X6.here hx rfl (hb hby at_68) rfl ?_
    show Steps p_.tables e_ below (T6.setTop (mkF m_ 69 #[.val (.int v), .val (.int off), .val (.int a), .val (.int b), .val (.int (own_v v)), .val (.int (own_o off)), .val (.ref b1), .unset] [(.int (((own_v v) >>> ((8 : Int32) &&& 31)).toInt8.toInt32)), (.int ((own_o off) + (1 : Int32))), (.ref b1)])) t_
    exact k_
  obtain ⟨T7, h7, X7, e7, W7, st7⟩ := own_stB X6 hx hZ e6 A_b1 (((own_v v) >>> ((8 : Int32) &&& 31)).toInt8.toInt32) (own_nb _) ((own_i off) + 1) (own_i3 off) (by have := own_i2 off; omega) (j := ((own_o off) + (1 : Int32))) (x := (((own_v v) >>> ((8 : Int32) &&& 31)).toInt8.toInt32)) (Ls := #[.val (.int v), .val (.int off), .val (.int a), .val (.int b), .val (.int (own_v v)), .val (.int (own_o off)), .val (.ref b1), .unset]) (rest := []) (hb hby at_69)
  have N7 := Fr.snoc X7 N6 g_b1
  replace Z0 : n0 ≤ h7.size := W7.size ▸ Z0
  replace A_b1 : own_A Z h7 b1 k1 .byte 4 (fun x => .int (own_b2 v off a b x)) := A_b1.setI (by have := own_i2 off; omega) W7
  refine own_st T7 (mkF m_ 70 #[.val (.int v), .val (.int off), .val (.int a), .val (.int b), .val (.int (own_v v)), .val (.int (own_o off)), .val (.ref b1), .unset] []) st7 ?_
  refine own_st T7 (mkF m_ 74 #[.val (.int v), .val (.int off), .val (.int a), .val (.int b), .val (.int (own_v v)), .val (.int (own_o off)), .val (.ref b1), .unset] [(.int (own_o off)), (.ref b1)]) (fun t_ k_ => ?_) ?_
  · refine XS.aload X7.here hx rfl (hb hby at_70) rfl rfl ?_
    show Steps p_.tables e_ below (T7.setTop (mkF m_ 72 #[.val (.int v), .val (.int off), .val (.int a), .val (.int b), .val (.int (own_v v)), .val (.int (own_o off)), .val (.ref b1), .unset] [(.ref b1)])) t_
    refine XS.iload X7.here hx rfl (hb hby at_72) rfl ?_
    show Steps p_.tables e_ below (T7.setTop (mkF m_ 74 #[.val (.int v), .val (.int off), .val (.int a), .val (.int b), .val (.int (own_v v)), .val (.int (own_o off)), .val (.ref b1), .unset] [(.int (own_o off)), (.ref b1)])) t_
    exact k_
  refine own_callS X7 hx hZ hown (hw _ (List.mem_of_getElem? (i := 3) rfl)) (hw _ (List.mem_of_getElem? (i := 4) rfl)) (hw _ (List.mem_of_getElem? (i := 5) rfl)) (hw _ (List.mem_of_getElem? (i := 6) rfl)) (by decide) [(.ref b1), (.int (own_o off))] [] (rm1 l Z a0 hw b1 (own_o off) k1 4 (fun x => (own_b2 v off a b x)) (own_i off) h7 n0 Z0 A_b1 (own_i1 off) (by have := own_i2 off; omega) (by have := own_i2 off; omega)) 0 (by decide) (by decide) e7 (by rw [hml]; rfl) (lenOf own_pd0 rfl) rfl (Nat.le_of_eq rfl) (hb hby at_74) (by decide) (by decide) ?_
  intro v8 T8 L8 X8 q8
  obtain ⟨rfl, N8q, e8⟩ := q8
  have N8 := Fr.app N7 N8q
  show own_Out p_ e_ below s_ _ _ _ T8 (mkF m_ 77 #[.val (.int v), .val (.int off), .val (.int a), .val (.int b), .val (.int (own_v v)), .val (.int (own_o off)), .val (.ref b1), .unset] [(.int (f1 (own_b2 v off a b (own_i off)) (own_b2 v off a b ((own_i off) + 1))))])
  refine own_st T8 (mkF m_ 91 #[.val (.int v), .val (.int off), .val (.int a), .val (.int b), .val (.int (own_v v)), .val (.int (own_o off)), .val (.ref b1), .val (.int (f1 (own_b2 v off a b (own_i off)) (own_b2 v off a b ((own_i off) + 1))))] [(.int (if (f1 (own_b2 v off a b (own_i off)) (own_b2 v off a b ((own_i off) + 1))) = (own_v v) then (1 : Int32) else 0))]) (fun t_ k_ => ?_) ?_
  · refine XS.istore X8.here hx rfl (hb hby at_77) rfl (l' := #[.val (.int v), .val (.int off), .val (.int a), .val (.int b), .val (.int (own_v v)), .val (.int (own_o off)), .val (.ref b1), .val (.int (f1 (own_b2 v off a b (own_i off)) (own_b2 v off a b ((own_i off) + 1))))]) rfl ?_
    show Steps p_.tables e_ below (T8.setTop (mkF m_ 79 #[.val (.int v), .val (.int off), .val (.int a), .val (.int b), .val (.int (own_v v)), .val (.int (own_o off)), .val (.ref b1), .val (.int (f1 (own_b2 v off a b (own_i off)) (own_b2 v off a b ((own_i off) + 1))))] [])) t_
    refine XS.iload X8.here hx rfl (hb hby at_79) rfl ?_
    show Steps p_.tables e_ below (T8.setTop (mkF m_ 81 #[.val (.int v), .val (.int off), .val (.int a), .val (.int b), .val (.int (own_v v)), .val (.int (own_o off)), .val (.ref b1), .val (.int (f1 (own_b2 v off a b (own_i off)) (own_b2 v off a b ((own_i off) + 1))))] [(.int (f1 (own_b2 v off a b (own_i off)) (own_b2 v off a b ((own_i off) + 1))))])) t_
    refine XS.iload X8.here hx rfl (hb hby at_81) rfl ?_
    show Steps p_.tables e_ below (T8.setTop (mkF m_ 83 #[.val (.int v), .val (.int off), .val (.int a), .val (.int b), .val (.int (own_v v)), .val (.int (own_o off)), .val (.ref b1), .val (.int (f1 (own_b2 v off a b (own_i off)) (own_b2 v off a b ((own_i off) + 1))))] [(.int (own_v v)), (.int (f1 (own_b2 v off a b (own_i off)) (own_b2 v off a b ((own_i off) + 1))))])) t_
    have jn83 : ∀ t_, Steps p_.tables e_ below (T8.setTop (mkF m_ 91 #[.val (.int v), .val (.int off), .val (.int a), .val (.int b), .val (.int (own_v v)), .val (.int (own_o off)), .val (.ref b1), .val (.int (f1 (own_b2 v off a b (own_i off)) (own_b2 v off a b ((own_i off) + 1))))] [(.int (if (f1 (own_b2 v off a b (own_i off)) (own_b2 v off a b ((own_i off) + 1))) = (own_v v) then (1 : Int32) else 0))])) t_ → Steps p_.tables e_ below (T8.setTop (mkF m_ 83 #[.val (.int v), .val (.int off), .val (.int a), .val (.int b), .val (.int (own_v v)), .val (.int (own_o off)), .val (.ref b1), .val (.int (f1 (own_b2 v off a b (own_i off)) (own_b2 v off a b ((own_i off) + 1))))] [(.int (own_v v)), (.int (f1 (own_b2 v off a b (own_i off)) (own_b2 v off a b ((own_i off) + 1))))])) t_ := by
      intro t_ k_
      by_cases hc83 : (f1 (own_b2 v off a b (own_i off)) (own_b2 v off a b ((own_i off) + 1))) = (own_v v)
      · refine XS.icmpNo X8.here hx rfl (hb hby at_83) rfl (teq hc83).2 ?_
        show Steps p_.tables e_ below (T8.setTop (mkF m_ 86 #[.val (.int v), .val (.int off), .val (.int a), .val (.int b), .val (.int (own_v v)), .val (.int (own_o off)), .val (.ref b1), .val (.int (f1 (own_b2 v off a b (own_i off)) (own_b2 v off a b ((own_i off) + 1))))] [])) t_
        refine XS.iconst X8.here hx rfl (hb hby at_86) ?_
        show Steps p_.tables e_ below (T8.setTop (mkF m_ 87 #[.val (.int v), .val (.int off), .val (.int a), .val (.int b), .val (.int (own_v v)), .val (.int (own_o off)), .val (.ref b1), .val (.int (f1 (own_b2 v off a b (own_i off)) (own_b2 v off a b ((own_i off) + 1))))] [(.int (1 : Int32))])) t_
        refine XS.goto X8.here hx rfl (pc0 := 87) (pc' := 91) rfl (hb hby at_87) (by decide) (by decide) ?_
        show Steps p_.tables e_ below (T8.setTop (mkF m_ 91 #[.val (.int v), .val (.int off), .val (.int a), .val (.int b), .val (.int (own_v v)), .val (.int (own_o off)), .val (.ref b1), .val (.int (f1 (own_b2 v off a b (own_i off)) (own_b2 v off a b ((own_i off) + 1))))] [(.int (1 : Int32))])) t_
        simp only [if_pos hc83] at k_
        exact k_
      · refine XS.icmpYes X8.here hx rfl (pc0 := 83) (pc' := 90) rfl (hb hby at_83) rfl (feq hc83).2 (by decide) (by decide) ?_
        show Steps p_.tables e_ below (T8.setTop (mkF m_ 90 #[.val (.int v), .val (.int off), .val (.int a), .val (.int b), .val (.int (own_v v)), .val (.int (own_o off)), .val (.ref b1), .val (.int (f1 (own_b2 v off a b (own_i off)) (own_b2 v off a b ((own_i off) + 1))))] [])) t_
        refine XS.iconst X8.here hx rfl (hb hby at_90) ?_
        show Steps p_.tables e_ below (T8.setTop (mkF m_ 91 #[.val (.int v), .val (.int off), .val (.int a), .val (.int b), .val (.int (own_v v)), .val (.int (own_o off)), .val (.ref b1), .val (.int (f1 (own_b2 v off a b (own_i off)) (own_b2 v off a b ((own_i off) + 1))))] [(.int (0 : Int32))])) t_
        simp only [if_neg hc83] at k_
        exact k_
    refine jn83 _ ?_
    show Steps p_.tables e_ below (T8.setTop (mkF m_ 91 #[.val (.int v), .val (.int off), .val (.int a), .val (.int b), .val (.int (own_v v)), .val (.int (own_o off)), .val (.ref b1), .val (.int (f1 (own_b2 v off a b (own_i off)) (own_b2 v off a b ((own_i off) + 1))))] [(.int (if (f1 (own_b2 v off a b (own_i off)) (own_b2 v off a b ((own_i off) + 1))) = (own_v v) then (1 : Int32) else 0))])) t_
    exact k_
  refine own_retN X8 hx hlk (t := .boolean) hret (by simp) (hb hby at_91) (by decide) (by decide) ?_
  exact ⟨by rw [own_law v off a b]; rfl, N8⟩
set_option maxRecDepth 65536 in
set_option maxHeartbeats 40000000 in
theorem comes_1 {Post : Tables → Env → Array Value → State → Outcome → State → Prop} (hpost : ∀ tb e args s v u, (limb_1_1.after args s (.returned v) u = true ∧ limb_1_2.after args s (.returned v) u = true ∧ True) → FrameEnd s (.returned v) u (Jvm.fieldLocs frame_1_writes args s ++ Jvm.arrayLocs frame_1_arrays args s ++ Jvm.staticLocs frame_1_statics s) 16 128 → Post tb e args s (.returned v) u) :
    ArmFor flags0 classFile x code maxLocals ret World_1 tables_1 room_1 Calls_1 rest_1 Pre_1 Post := by
  intro l hfl _ _ p e ha hc hk s m args below hf hA hF happ hP
  obtain ⟨hcalls, hrest, hpre⟩ := hP
  obtain ⟨-, -, -, hnamed, -, -, -, hat⟩ := (Spec.applies_iff hf).mp happ
  obtain ⟨hg, hn⟩ := and_e (Cond.before_iff.mp (show (Jvm.Cond.and given_1 narrow_1).before args s = true from hpre))
  obtain ⟨c0, r0⟩ := and_e hg
  obtain ⟨k0, r1⟩ := and_e r0
  obtain ⟨k1, r2⟩ := and_e r1
  obtain ⟨k2, r3⟩ := and_e r2
  obtain ⟨w0, w1, w2, w3, rfl⟩ : ∃ w0 w1 w2 w3 : Value, args = #[w0, w1, w2, w3] := by
    have hs : args.size = 4 := by simpa [Cond.value, given_1] using c0
    obtain ⟨L⟩ := args
    match L, hs with
    | [w0, w1, w2, w3], _ => exact ⟨w0, w1, w2, w3, rfl⟩
  have hw := fun d (hd : d ∈ tables_1) => atoms_spec (ws := Jvm.Cond.code x code maxLocals ret :: tables_1) hat d (List.mem_cons_of_mem _ hd)
  have hfit : Fit s := fun {y c} hc i hi => by
    obtain ⟨ha, rfl⟩ := Array.getElem?_eq_some_iff.mp hc
    have q := List.all_eq_true.mp ((Array.all_eq_true_iff_forall_mem.mp hF) _ (Array.getElem_mem ha)) i (List.mem_range.mpr hi)
    simpa [Array.getElem?_eq_getElem hi] using q
  obtain ⟨i0, ei0⟩ := is_v k0
  obtain rfl : w0 = (.int i0) := Option.some.inj ei0
  obtain ⟨i1, ei1⟩ := is_v k1
  obtain rfl : w1 = (.int i1) := Option.some.inj ei1
  obtain ⟨i2, ei2⟩ := is_v k2
  obtain rfl : w2 = (.int i2) := Option.some.inj ei2
  obtain ⟨i3, ei3⟩ := is_v r3
  obtain rfl : w3 = (.int i3) := Option.some.inj ei3
  obtain ⟨n, o, h1, h2, h3, _, L, rfl, ⟨rfl, N⟩, hq⟩ := rm0 l s _ hw i0 i1 i2 i3 s.heap s.heap.size (Nat.le_refl _)  tables_1 p e ha hc hk s m _ below hf ((Spec.applies_iff_loose hf).mp happ).1 ⟨rfl, State.Warmed39.refl s, rfl⟩ trivial
  refine ⟨n, _, h1, h2, h3, hpost _ _ _ _ _ _ ⟨Cond.after_iff.mpr rfl, Cond.after_iff.mpr (eq_i res_at (Term.int_eval (1)) rfl), trivial⟩ ⟨hq.1, hq.2.1, (hq.2.2.sift fun y hy => Or.inr (N y hy)).mono (by decide) (by decide)⟩⟩
theorem main_1_1 : Claimed_1_1 := comes_1 fun _ _ _ _ _ _ h hF => ⟨h.1, hF⟩
theorem main_1_2 : Claimed_1_2 := comes_1 fun _ _ _ _ _ _ h hF => ⟨h.2.1, hF⟩
end Jvm.Pilot.@@N@@
namespace Jvm.Pilot.@@N@@
open Jvm Jvm.ClassFile Sem Op Lib Jvm.Free Jvm.Stand Jvm.Pilot.@@N@@.Jvm.D
/-! MADE BY PROGRAM (witnessworld.py) out of the Statement's table words and the real class files: 9 classes; the members and pool entries that the words name. The judged class is class 1, her method 1. -/
namespace start1
open Jvm.ClassFile
def u (s : String) : CpInfo := .utf8 (stringToUtf16 s)
/-- a pool by its gaps: so many unusable entries, then the entry; so many at the end -/
def gap : Nat → List CpInfo → List CpInfo
  | 0, r => r
  | n + 1, r => .unusable :: gap n r
def poolList (es : List (Nat × CpInfo)) (last : Nat) : List CpInfo := es.foldr (fun e r => gap e.1 (e.2 :: r)) (gap last [])
def pool (es : List (Nat × CpInfo)) (last : Nat) : Array CpInfo := ⟨poolList es last⟩
def fileOf (pool : Array CpInfo) (this : Nat) (attrs : Array Attribute := #[]) (ms : Array MethodInfo := #[]) (fl : Nat := 33) (sup : Nat := 0) (ifs : Array Nat := #[]) (fds : Array FieldInfo := #[]) : ClassFile where
  minorVersion := 0
  majorVersion := 65
  constantPool := pool
  accessFlags := fl
  thisClass := this
  superClass := sup
  interfaces := ifs
  fields := fds
  methods := ms
  attributes := attrs
def plain (name : String) (sup : Option ClassId) : Class where
  name := name
  kind := .ordinary
  loader := none
  accessFlags := 33
  super := sup
  interfaces := #[]
  cf := none
  fields := #[]
  methods := #[]
  instanceTypes := #[]
  staticTypes := #[]
  resolved := #[]
  callSites := []
  init := .initialized
  statics := none
  mirror := none

def pool0 : Array CpInfo := pool [(5, u "<init>"), (0, u "()V"), (1, .class_ 10), (1, u "java/lang/Object")] 113

def k0m0 : Method := { name := "<init>", desc := "()V", sig := { parameters := [], returnType := none }, accessFlags := 1, code := none }
/-- java/lang/Object -/
def k0 : Class := { plain "java/lang/Object" none with
  accessFlags := 33
  interfaces := #[]
  cf := some (fileOf pool0 8 #[] #[{ accessFlags := 1, nameIndex := 5, descriptorIndex := 6, attributes := #[] }] 33 0 #[] #[])
  fields := #[]
  methods := #[k0m0]
  instanceTypes := #[]
  staticTypes := #[]
  resolved := Array.replicate 124 none
  statics := none }

def pool1 : Array CpInfo := pool [(2, .class_ 4), (1, u "java/lang/Object"), (0, u "<init>"), (0, u "()V"), (0, .integer 65535), (0, .integer 2147483647), (0, .methodref 10 11), (0, .class_ 12), (0, .nameAndType 13 14), (0, u "com/example/adapterd/adapterd/controller/HciPacket"), (0, u "uint16"), (0, u "([BI)I"), (0, .class_ 16), (0, u "com/example/adapterd/adapterd/controller/HciPacketUint16PinLaw"), (2, u "law"), (0, u "(IIII)Z")] 5

def k1m0 : Method := { name := "<init>", desc := "()V", sig := { parameters := [], returnType := none }, accessFlags := 1, code := none }
def k1c1 : Code := { maxStack := 4, maxLocals := 8, code := code, exceptionTable := #[], attributes := #[] }
def k1m1 : Method := { name := "law", desc := "(IIII)Z", sig := { parameters := [.int, .int, .int, .int], returnType := some .boolean }, accessFlags := 9, code := some k1c1 }
/-- com/example/adapterd/adapterd/controller/HciPacketUint16PinLaw -/
def k1 : Class := { plain "com/example/adapterd/adapterd/controller/HciPacketUint16PinLaw" (some 0) with
  accessFlags := 49
  interfaces := #[]
  cf := some (fileOf pool1 15 #[] #[{ accessFlags := 1, nameIndex := 5, descriptorIndex := 6, attributes := #[] }, { accessFlags := 9, nameIndex := 19, descriptorIndex := 20, attributes := #[] }] 49 2 #[] #[])
  fields := #[]
  methods := #[k1m0, k1m1]
  instanceTypes := #[]
  staticTypes := #[]
  resolved := Array.replicate 26 none
  statics := none }

def pool2 : Array CpInfo := pool [(2, .class_ 4), (1, u "java/lang/Object"), (3, .class_ 10), (1, u "com/example/adapterd/adapterd/controller/HciPacket"), (0, u "type"), (0, u "I"), (2, u "packet"), (0, u "[B"), (53, u "uint16"), (49, u "([BI)I"), (0, u "COMMAND"), (2, u "ACL_DATA"), (1, u "SYNCHRONOUS_DATA"), (1, u "EVENT"), (1, u "ISO_DATA"), (1, u "COMMAND_COMPLETE"), (1, u "COMMAND_STATUS"), (1, u "HARDWARE_ERROR"), (1, u "STATUS_SUCCESS"), (1, u "STATUS_UNKNOWN_HCI_COMMAND"), (0, u "MAX_RETURN_PARAMETERS")] 36

def k2c0 : Code := { maxStack := 4, maxLocals := 2, code := prog_19_method_19_code, exceptionTable := #[], attributes := #[] }
def k2m0 : Method := { name := "uint16", desc := "([BI)I", sig := { parameters := [(.array .byte), .int], returnType := some .int }, accessFlags := 8, code := some k2c0 }
/-- com/example/adapterd/adapterd/controller/HciPacket -/
def k2 : Class := { plain "com/example/adapterd/adapterd/controller/HciPacket" (some 0) with
  accessFlags := 49
  interfaces := #[]
  cf := some (fileOf pool2 8 #[] #[{ accessFlags := 8, nameIndex := 70, descriptorIndex := 120, attributes := #[] }] 49 2 #[] #[{ accessFlags := 25, nameIndex := 121, descriptorIndex := 12, attributes := #[] }, { accessFlags := 24, nameIndex := 124, descriptorIndex := 12, attributes := #[] }, { accessFlags := 24, nameIndex := 126, descriptorIndex := 12, attributes := #[] }, { accessFlags := 24, nameIndex := 128, descriptorIndex := 12, attributes := #[] }, { accessFlags := 24, nameIndex := 130, descriptorIndex := 12, attributes := #[] }, { accessFlags := 24, nameIndex := 132, descriptorIndex := 12, attributes := #[] }, { accessFlags := 24, nameIndex := 134, descriptorIndex := 12, attributes := #[] }, { accessFlags := 24, nameIndex := 136, descriptorIndex := 12, attributes := #[] }, { accessFlags := 25, nameIndex := 138, descriptorIndex := 12, attributes := #[] }, { accessFlags := 25, nameIndex := 140, descriptorIndex := 12, attributes := #[] }, { accessFlags := 25, nameIndex := 141, descriptorIndex := 12, attributes := #[] }, { accessFlags := 18, nameIndex := 11, descriptorIndex := 12, attributes := #[] }, { accessFlags := 18, nameIndex := 15, descriptorIndex := 16, attributes := #[] }])
  fields := #[{ name := "COMMAND", type := .int, accessFlags := 25, slot := 0, constantValue := 0 }, { name := "ACL_DATA", type := .int, accessFlags := 24, slot := 1, constantValue := 0 }, { name := "SYNCHRONOUS_DATA", type := .int, accessFlags := 24, slot := 2, constantValue := 0 }, { name := "EVENT", type := .int, accessFlags := 24, slot := 3, constantValue := 0 }, { name := "ISO_DATA", type := .int, accessFlags := 24, slot := 4, constantValue := 0 }, { name := "COMMAND_COMPLETE", type := .int, accessFlags := 24, slot := 5, constantValue := 0 }, { name := "COMMAND_STATUS", type := .int, accessFlags := 24, slot := 6, constantValue := 0 }, { name := "HARDWARE_ERROR", type := .int, accessFlags := 24, slot := 7, constantValue := 0 }, { name := "STATUS_SUCCESS", type := .int, accessFlags := 25, slot := 8, constantValue := 0 }, { name := "STATUS_UNKNOWN_HCI_COMMAND", type := .int, accessFlags := 25, slot := 9, constantValue := 0 }, { name := "MAX_RETURN_PARAMETERS", type := .int, accessFlags := 25, slot := 10, constantValue := 0 }, { name := "type", type := .int, accessFlags := 18, slot := 0, constantValue := 0 }, { name := "packet", type := (.array .byte), accessFlags := 18, slot := 1, constantValue := 0 }]
  methods := #[k2m0]
  instanceTypes := #[.int, (.array .byte)]
  staticTypes := #[.int, .int, .int, .int, .int, .int, .int, .int, .int, .int, .int]
  resolved := Array.replicate 178 none
  statics := none }

def pool3 : Array CpInfo := pool [(1, u "java/lang/Cloneable"), (0, .class_ 1), (0, u "java/lang/Object"), (0, .class_ 3)] 3

/-- java/lang/Cloneable -/
def k3 : Class := { plain "java/lang/Cloneable" (some 0) with
  accessFlags := 1537
  interfaces := #[]
  cf := some (fileOf pool3 2 #[] #[] 1537 4 #[] #[])
  fields := #[]
  methods := #[]
  instanceTypes := #[]
  staticTypes := #[]
  resolved := Array.replicate 8 none
  statics := none }

def pool4 : Array CpInfo := pool [(1, u "java/io/Serializable"), (0, .class_ 1), (0, u "java/lang/Object"), (0, .class_ 3)] 3

/-- java/io/Serializable -/
def k4 : Class := { plain "java/io/Serializable" (some 0) with
  accessFlags := 1537
  interfaces := #[]
  cf := some (fileOf pool4 2 #[] #[] 1537 4 #[] #[])
  fields := #[]
  methods := #[]
  instanceTypes := #[]
  staticTypes := #[]
  resolved := Array.replicate 8 none
  statics := none }

/-- the primitive byte -/
def k5 : Class := { plain "byte" none with kind := .primitive 'B', accessFlags := 0x411 }
/-- [B -/
def k6 : Class := { plain "[B" (some 0) with kind := .array 5 .byte, interfaces := #[3, 4], accessFlags := 1041 }

/-- the primitive int -/
def k7 : Class := { plain "int" none with kind := .primitive 'I', accessFlags := 0x411 }
/-- [I -/
def k8 : Class := { plain "[I" (some 0) with kind := .array 7 .int, interfaces := #[3, 4], accessFlags := 1041 }

def heap : Heap := #[]
def classes : Array Class := #[k0, k1, k2, k3, k4, k5, k6, k7, k8]
def interned : List (Array UInt16 × Addr) := []
def slotsUsed : Nat := 0
def theMethod : MethodId := ⟨1, 1⟩
def args0 : Array Value := #[.int 5, .int 300, .int 7, .int 3]
def aboutOver (below : List Frame) : State where
  vm := { classes := classes, interned := interned.toArray }
  heap := heap
  slotsUsed := slotsUsed
  threads := #[{ frames := .invoking theMethod args0 :: below }]
def below0 : List Frame := [.native { method := ⟨0, 0⟩, args := #[] }]
def about1 : State := aboutOver below0
def p0 : Program := .bare "" "" ""
def e0 : Env := launch0.env 0 0 0
theorem w_frames : about1.frames = Frame.invoking theMethod args0 :: below0 := rfl
set_option maxRecDepth 65536 in
theorem w_args : argsFit about1.vm theMethod args0 = true := by decide +kernel
set_option maxRecDepth 65536 in
theorem w_heap : heapFits about1 = true := by decide +kernel
set_option maxRecDepth 65536 in
theorem w_runnable : about1.curStatus? = some .runnable := by decide +kernel
set_option maxRecDepth 65536 in
theorem w_alone : about1.alone = true := by decide +kernel
set_option maxRecDepth 65536 in
theorem w_named : about1.methodNamed? x = some theMethod := by decide +kernel
set_option maxRecDepth 65536 in
theorem w_hears : about1.hears theMethod below0 = true := by decide +kernel
set_option maxRecDepth 65536 in
theorem w_ripe : about1.ripe theMethod args0 below0 = true := by decide +kernel
theorem w_running : about1.status = .running := rfl
set_option maxRecDepth 65536 in
theorem w_room : about1.hasRoom e0.platform room_1 = true :=
  launch0.hasRoom_least _ room_1 (by decide +kernel) (by decide +kernel) (by decide +kernel) (by decide +kernel) (by decide +kernel) (by decide +kernel)
theorem allAtoms_all (ts : List Jvm.Cond) (a : Array Jvm.Value) (st : Jvm.State) : (allAtoms ts).before a st = ts.all (fun c => c.before a st) := by
  induction ts with
  | nil => rfl
  | cons c t ih =>
    show (Jvm.Cond.and c (allAtoms t)).before a st = _
    rw [Jvm.Cond.before_and, ih, List.all_cons]
def words1 : List Jvm.Cond := Jvm.Cond.code x code maxLocals ret :: tables_1
/-- a 'code' word, met by the world's own term for the bytes: nothing is compared byte by byte -/
theorem code_word {y : MethodName} {bytes : ByteArray} {mx : Nat} {rt : Option FieldType} {a : Array Value} {s : State} {m : MethodId} {meth : Method} {c : Code} (h1 : s.methodNamed? y = some m) (h2 : s.vm.method? m = some meth) (h3 : meth.code = some c) (h4 : c.code = bytes)
    (h5 : (c.maxLocals == mx && c.exceptionTable.isEmpty && decide (c.maxStack ≤ mostOperands) && decide (meth.sig.returnType = rt) && !meth.locks && decide (parseMethodDescriptor y.desc = some meth.sig)) = true) : (Jvm.Cond.code y bytes mx rt).before a s = true := by
  simp only [Bool.and_eq_true, beq_iff_eq, Bool.not_eq_true', decide_eq_true_eq] at h5
  obtain ⟨⟨⟨⟨⟨g1, g2⟩, g3⟩, g4⟩, g5⟩, g6⟩ := h5
  simp [Cond.before, Cond.holds, Cond.value, h1, h2, h3, h4, g1, g2, g3, g4, g5, g6]
def isCode : Jvm.Cond → Bool
  | .code _ _ _ _ => true
  | _ => false
theorem all_split {L : List Jvm.Cond} {P : Jvm.Cond → Bool} (h1 : L.all (fun c => isCode c || P c) = true) (h2 : ∀ c ∈ L.filter isCode, P c = true) : L.all P = true := by
  refine List.all_eq_true.mpr fun c hc => ?_
  have h := List.all_eq_true.mp h1 c hc
  rcases Bool.eq_false_or_eq_true (isCode c) with hi | hi
  · exact h2 c (List.mem_filter.mpr ⟨hc, hi⟩)
  · simpa [hi] using h
set_option maxRecDepth 65536 in
theorem w_c0 : (Jvm.Cond.code x code maxLocals ret).before args0 about1 = true := code_word (m := ⟨1, 1⟩) (meth := k1m1) (c := k1c1) (by decide +kernel) rfl rfl rfl (by decide +kernel)
set_option maxRecDepth 65536 in
theorem w_c1 : (Jvm.Cond.code ({ cls := "com/example/adapterd/adapterd/controller/HciPacket", name := "uint16", desc := "([BI)I" } : Jvm.MethodName) prog_19_method_19_code (2 : Nat) (Option.some Jvm.ClassFile.FieldType.int)).before args0 about1 = true := code_word (m := ⟨2, 0⟩) (meth := k2m0) (c := k2c0) (by decide +kernel) rfl rfl rfl (by decide +kernel)
def codes1 : List Jvm.Cond := [Jvm.Cond.code x code maxLocals ret, Jvm.Cond.code ({ cls := "com/example/adapterd/adapterd/controller/HciPacket", name := "uint16", desc := "([BI)I" } : Jvm.MethodName) prog_19_method_19_code (2 : Nat) (Option.some Jvm.ClassFile.FieldType.int)]
set_option maxRecDepth 65536 in
theorem codes_eq : words1.filter isCode = codes1 := rfl
theorem w_codes : ∀ c ∈ words1.filter isCode, c.before args0 about1 = true := by
  rw [codes_eq]
  intro c hc
  simp only [codes1, List.mem_cons, List.not_mem_nil, or_false] at hc
  rcases hc with rfl | rfl
  · exact w_c0
  · exact w_c1
set_option maxRecDepth 65536 in
theorem w_t1 : words1.all (fun c => isCode c || c.before args0 about1) = true := by decide +kernel
theorem w_tables : (allAtoms (Jvm.Cond.code x code maxLocals ret :: tables_1)).before args0 about1 = true := by
  rw [allAtoms_all]
  show words1.all (fun c => c.before args0 about1) = true
  refine all_split ?_ w_codes
  rw [w_t1]
set_option maxRecDepth 65536 in
theorem w_case : (Jvm.Cond.and given_1 narrow_1).before args0 about1 = true := by decide +kernel
theorem w_applies : (headSpec (Jvm.Cond.code x code maxLocals ret :: tables_1) room_1).applies x e0.platform about1 = true :=
  (Spec.applies_iff w_frames).mpr ⟨w_running, w_runnable, w_alone, w_named, w_hears, w_ripe, w_room, w_tables⟩
theorem atStart : AtStart classFile x code maxLocals ret World_1 tables_1 room_1 Calls_1 rest_1 Pre_1 launch0 p0 e0 about1 theMethod args0 below0 :=
  ⟨lists_1, trivial, launch0.admits_env _ _ _, launch0.least_env, fairChoices_fair.cas, fairChoices_fair.clock, w_frames, w_args, w_heap, w_applies, trivial, trivial, w_case⟩
end start1
theorem witness_1 : WitnessClaimed_1 := ⟨start1.p0, start1.e0, start1.about1, start1.theMethod, start1.args0, start1.below0, start1.atStart⟩
end Jvm.Pilot.@@N@@
