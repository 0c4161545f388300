import JvmDerived
import JvmDerived.Pilot.@@N@@Statement
import JvmDerived.Pilot.@@N@@Code
set_option linter.unusedVariables false
set_option linter.unusedSimpArgs false
namespace Jvm.Pilot.@@N@@
open Jvm Jvm.ClassFile Sem Op Lib Jvm.Free Jvm.Stand Jvm.LawKit Jvm.RoadKit Bundle Jvm.Pilot.@@N@@.Jvm.D
/-! own_Out: from the frame g over T the run comes to a return of which Q speaks. A walk is a proof of own_Out from its entry, backwards step by step; so it may fork. -/
section OwnKit
variable {p : Program} {l : Launch} {e : Env} {R : Room} {s : State} {m : MethodId} {args : Array Value} {below : List Frame} {meth : Method} {c : Code} {T : State} {locs : List Loc} {cells slots kc ks : Nat} {Z : State} {a0 : Array Value} {h h' h0 : Heap} {Q : Option Value → Heap → List Loc → Prop} {g : JFrame}
def own_Out (p : Program) (e : Env) (below : List Frame) (s : State) (Q : Option Value → Heap → List Loc → Prop) (kc ks : Nat) (T : State) (g : JFrame) : Prop :=
  ∃ U o, Steps p.tables e below (T.setTop g) U ∧ U.status = .running ∧ Ended U below o ∧ ∃ v L, o = .returned v ∧ Q v U.heap L ∧ FrameEnd s o U L kc ks
theorem own_st (T' : State) (g' : JFrame) (st : ∀ t, Steps p.tables e below (T'.setTop g') t → Steps p.tables e below (T.setTop g) t) (k : own_Out p e below s Q kc ks T' g') : own_Out p e below s Q kc ks T g := by
  obtain ⟨U, o, h1, h2⟩ := k; exact ⟨U, o, st _ h1, h2⟩
theorem own_tr (T' : State) (g' : JFrame) (st : Steps p.tables e below (T.setTop g) (T'.setTop g')) (k : own_Out p e below s Q kc ks T' g') : own_Out p e below s Q kc ks T g := by
  obtain ⟨U, o, h1, h2⟩ := k; exact ⟨U, o, st.trans h1, h2⟩
theorem own_ret (X : Stand p l e R s m args below meth c T locs cells slots) (hx : p.tables.exec = Jvm.exec) (hlk : meth.locks = false) {pc : Nat} {Ls : Array Slot} {w : Value} {t : FieldType} {i : Instr} {rest : List Value} (hret : meth.sig.returnType = some t) (hn : narrow t w = w)
    (hi : (i = .ireturn ∧ (t = .int ∨ t = .boolean ∨ t = .byte ∨ t = .char ∨ t = .short) ∧ ∃ z, w = .int z) ∨ (i = .lreturn ∧ t = .long ∧ ∃ z, w = .long z) ∨ (i = .dreturn ∧ t = .double ∧ ∃ z, w = .double z) ∨ (i = .freturn ∧ t = .float ∧ ∃ z, w = .float z) ∨ (i = .areturn ∧ t.isReference = true ∧ w.isRef = true))
    (hd : decode c.code pc = .ok (i, 1)) (hc : cells ≤ kc) (hs : slots ≤ ks) (hq : Q (some w) T.heap locs) : own_Out p e below s Q kc ks T (mkF m pc Ls (w :: rest)) := by
  obtain ⟨fs, hr, hrun, hended, hW, hsame⟩ := X.leave (v := some w) (fun h => by rw [hret] at h; cases h) hlk
  exact ⟨_, _, retOut X hx hret hn hi hd hr, hrun, hended, _, _, rfl, hq, ⟨_, rfl⟩, hW, hsame.mono hc hs⟩
theorem own_retI (X : Stand p l e R s m args below meth c T locs cells slots) (hx : p.tables.exec = Jvm.exec) (hlk : meth.locks = false) {pc : Nat} {Ls : Array Slot} {z : Int32} {rest : List Value} (hret : meth.sig.returnType = some .int)
    (hd : decode c.code pc = .ok (.ireturn, 1)) (hc : cells ≤ kc) (hs : slots ≤ ks) (hq : Q (some (.int z)) T.heap locs) : own_Out p e below s Q kc ks T (mkF m pc Ls (.int z :: rest)) :=
  own_ret X hx hlk hret rfl (Or.inl ⟨rfl, Or.inl rfl, z, rfl⟩) hd hc hs hq
theorem own_retJ (X : Stand p l e R s m args below meth c T locs cells slots) (hx : p.tables.exec = Jvm.exec) (hlk : meth.locks = false) {pc : Nat} {Ls : Array Slot} {z : Int64} {rest : List Value} (hret : meth.sig.returnType = some .long)
    (hd : decode c.code pc = .ok (.lreturn, 1)) (hc : cells ≤ kc) (hs : slots ≤ ks) (hq : Q (some (.long z)) T.heap locs) : own_Out p e below s Q kc ks T (mkF m pc Ls (.long z :: rest)) :=
  own_ret X hx hlk hret rfl (Or.inr (Or.inl ⟨rfl, rfl, z, rfl⟩)) hd hc hs hq
theorem own_nref {t : FieldType} {w : Value} (ht : t.isReference = true) (hw : w.isRef = true) : narrow t w = w := by
  cases t <;> first | (cases ht; done) | (cases w <;> first | rfl | (cases hw; done))
theorem own_retA (X : Stand p l e R s m args below meth c T locs cells slots) (hx : p.tables.exec = Jvm.exec) (hlk : meth.locks = false) {pc : Nat} {Ls : Array Slot} {w : Value} {t : FieldType} {rest : List Value} (hret : meth.sig.returnType = some t) (ht : t.isReference = true) (hw : w.isRef = true)
    (hd : decode c.code pc = .ok (.areturn, 1)) (hc : cells ≤ kc) (hs : slots ≤ ks) (hq : Q (some w) T.heap locs) : own_Out p e below s Q kc ks T (mkF m pc Ls (w :: rest)) :=
  own_ret X hx hlk hret (own_nref ht hw) (Or.inr (Or.inr (Or.inr (Or.inr ⟨rfl, ht, hw⟩)))) hd hc hs hq
theorem own_retN (X : Stand p l e R s m args below meth c T locs cells slots) (hx : p.tables.exec = Jvm.exec) (hlk : meth.locks = false) {pc : Nat} {Ls : Array Slot} {z : Int32} {t : FieldType} {rest : List Value} (hret : meth.sig.returnType = some t) (ht : t = .boolean ∨ t = .byte ∨ t = .char ∨ t = .short)
    (hd : decode c.code pc = .ok (.ireturn, 1)) (hc : cells ≤ kc) (hs : slots ≤ ks) (hq : Q (some (.int (nar t z))) T.heap locs) : own_Out p e below s Q kc ks T (mkF m pc Ls (.int z :: rest)) := by
  obtain ⟨fs, hr, hrun, hended, hW, hsame⟩ := X.leave (v := some (.int (nar t z))) (fun h => by rw [hret] at h; cases h) hlk
  exact ⟨_, _, retN X hx hret ht hd hr, hrun, hended, _, _, rfl, hq, ⟨_, rfl⟩, hW, hsame.mono hc hs⟩
theorem own_ret0 (X : Stand p l e R s m args below meth c T locs cells slots) (hx : p.tables.exec = Jvm.exec) (hlk : meth.locks = false) {pc : Nat} {Ls : Array Slot} (hret : meth.sig.returnType = none)
    (hd : decode c.code pc = .ok (.return_, 1)) (hc : cells ≤ kc) (hs : slots ≤ ks) (hq : Q none T.heap locs) : own_Out p e below s Q kc ks T (mkF m pc Ls []) := by
  obtain ⟨fs, hr, hrun, hended, hW, hsame⟩ := X.leave (v := none) (fun _ => rfl) hlk
  exact ⟨_, _, X.returnOut hx hret hd hr, hrun, hended, _, _, rfl, hq, ⟨_, rfl⟩, hW, hsame.mono hc hs⟩
/-- a method's contract at the arguments as' over the heap h0 -/
def own_Met (l : Launch) (Z : State) (y : MethodName) (bytes : ByteArray) (maxL : Nat) (ret : Option FieldType) (rm : Room) (as' : Array Value) (h0 : Heap) (Q : Option Value → Heap → List Loc → Prop) : Prop :=
  ∀ ws : List Jvm.Cond, MetFree l y (head1 (Jvm.Cond.code y bytes maxL ret :: ws) rm) (fun a U => a = as' ∧ Z.Warmed39 U.vm ∧ U.heap = h0) (fun _ _ _ _ _ => True) (fun _ U o U' => ∃ v L, o = .returned v ∧ Q v U'.heap L ∧ FrameEnd U o U' L rm.cells rm.slots)
theorem own_body {y : MethodName} {bytes : ByteArray} {maxL : Nat} {ret : Option FieldType} {rm : Room} {as' : Array Value} (Ls : Array Slot) (hp : plainFor y = true) (hef : ∀ m, entryFrame m as' maxL = mkF m 0 Ls [])
    (hbody : ∀ (p : Program) (e : Env) (s : State) (m : MethodId) (below : List Frame) (meth : Method) (c : Code) (s₁ : State), Stand p l e rm s m as' below meth c s₁ [] 0 0 → p.tables.exec = Jvm.exec → c.code = bytes → c.maxLocals = maxL → meth.sig.returnType = ret → meth.locks = false → Z.Warmed39 s.vm → s.vm.findClass y.cls = some m.cls → meth.name = y.name → s₁.heap = h0 →
      own_Out p e below s Q rm.cells rm.slots s₁ (mkF m 0 Ls [])) : own_Met l Z y bytes maxL ret rm as' h0 Q := by
  intro ws
  refine MetFree.of_bodySF hp hisR ?_
  intro p e s m args below meth c s₁ Bd hml0 hP hK
  obtain ⟨rfl, hZ, hh⟩ := hP
  have X0 : Stand p l e rm s m args below meth c s₁ [] 0 0 := Stand.of_body Bd
  have e0 : s₁.heap = h0 := by rw [← hh, Bd.state]; rfl
  obtain ⟨U, o, h1, h2⟩ := hbody p e s m below meth c s₁ X0 Bd.exec Bd.bytes hml0 Bd.returns Bd.notSynchronized hZ (findClass_of_methodNamed Bd.named) (name_of_methodNamed Bd.named Bd.method).1 e0
  exact ⟨U, o, castTop (hef m) h1, h2⟩
theorem own_callS (X : Stand p l e R s m args below meth c T locs cells slots) (hx : p.tables.exec = Jvm.exec) (hZ : Z.Warmed39 s.vm) {own : String} {index : Nat} {y : MethodName} {bytes : ByteArray} {maxL : Nat} {ret : Option FieldType} (hown : s.vm.findClass own = some m.cls)
    (w1 : (Cond.methodLink own index y).before a0 Z = true) (w2 : (Cond.static y).before a0 Z = true) (w3 : (Cond.initialized y.cls).before a0 Z = true) (w4 : (Cond.code y bytes maxL ret).before a0 Z = true) (hy : y.cls ≠ "java/lang/invoke/MethodHandle" ∧ y.cls ≠ "java/lang/invoke/VarHandle")
    {rm : Room} (argsL rest : List Value) {Qc : Option Value → Heap → List Loc → Prop} (M : own_Met l Z y bytes maxL ret rm argsL.toArray h Qc) (W : Nat) (hf : rm.frames + 1 ≤ R.frames) (hl : W + (maxL + 11) + rm.locals ≤ R.locals) (eT : T.heap = h)
    {pc : Nat} {Ls : Array Slot} {st : List Value} (hsize : Ls.size = c.maxLocals) (hlen : ∀ sig, parseMethodDescriptor y.desc = some sig → argsL.length = sig.parameters.length) (hstack : st = argsL.reverse ++ rest) (hW : (rest.map fun v => v.category).sum ≤ W)
    (hd : decode c.code pc = .ok (.invokestatic index, 3)) (hc : cells + rm.cells ≤ R.cells) (hs : slots + rm.slots ≤ R.slots)
    (k : ∀ v T' L, Stand p l e R s m args below meth c T' (locs ++ L) (cells + rm.cells) (slots + rm.slots) → Qc v T'.heap L → own_Out p e below s Q kc ks T' (mkF m (pc + 3) Ls (v.toList ++ rest))) : own_Out p e below s Q kc ks T (mkF m pc Ls st) := by
  obtain ⟨v, vm1, ⟨T', L', c', n'⟩, -, X', ⟨L, hQ, r1, r2, r3⟩, stp⟩ := Jvm.LawKit.callS X hx (y := y) (bytes := bytes) (maxL := maxL) (ret := ret) hown (mvT hZ w1) (mvT hZ w2) (mvT hZ w3) (mvT hZ w4) hy (backOf (W := W) (M []) hZ w4 w3 hf hl) (g := mkF m pc Ls st) rfl hsize (argsL := argsL) (rest := rest) hlen hstack (by show 2 * 0 + _ ≤ _; omega) hd (fun _ _ => ⟨rfl, eT, hc, hs⟩)
  dsimp only [Pt.U, Pt.locs, Pt.cells, Pt.slots] at X' r1 r2 r3 stp hQ
  subst r1 r2 r3
  exact own_st _ _ stp (k v T' L X' hQ)
theorem own_callC (X : Stand p l e R s m args below meth c T locs cells slots) (hx : p.tables.exec = Jvm.exec) (hZ : Z.Warmed39 s.vm) {own : String} {index : Nat} {y : MethodName} {bytes : ByteArray} {maxL : Nat} (hy1 : y.name = "<init>") (hown : s.vm.findClass own = some m.cls)
    (w1 : (Cond.methodLink own index y).before a0 Z = true) (w2 : (Cond.instanceMethod y).before a0 Z = true) (w3 : (Cond.initialized y.cls).before a0 Z = true) (w4 : (Cond.code y bytes maxL none).before a0 Z = true) (hy : y.cls ≠ "java/lang/invoke/MethodHandle" ∧ y.cls ≠ "java/lang/invoke/VarHandle")
    {rm : Room} (a : Addr) (argsL rest : List Value) {Qc : Option Value → Heap → List Loc → Prop} (M : own_Met l Z y bytes maxL none rm (.ref a :: argsL).toArray h Qc) (W : Nat) (hf : rm.frames + 1 ≤ R.frames) (hl : W + (maxL + 11) + rm.locals ≤ R.locals) (eT : T.heap = h)
    {pc : Nat} {Ls : Array Slot} {st : List Value} (hsize : Ls.size = c.maxLocals) (hlen : ∀ sig, parseMethodDescriptor y.desc = some sig → argsL.length = sig.parameters.length) (hstack : st = argsL.reverse ++ .ref a :: rest) (hW : (rest.map fun v => v.category).sum ≤ W)
    (hd : decode c.code pc = .ok (.invokespecial index, 3)) (hc : cells + rm.cells ≤ R.cells) (hs : slots + rm.slots ≤ R.slots)
    (k : ∀ v T' L, Stand p l e R s m args below meth c T' (locs ++ L) (cells + rm.cells) (slots + rm.slots) → Qc v T'.heap L → own_Out p e below s Q kc ks T' (mkF m (pc + 3) Ls (v.toList ++ rest))) : own_Out p e below s Q kc ks T (mkF m pc Ls st) := by
  obtain ⟨v, vm1, ⟨T', L', c', n'⟩, -, X', ⟨L, hQ, r1, r2, r3⟩, stp⟩ := X.specialBack hx (y := y) (bytes := bytes) (maxL := maxL) hy1 hown (mvT hZ w1) (mvT hZ w2) (mvT hZ w4) hy (backOf (W := W) (M []) hZ w4 w3 hf hl) (g := mkF m pc Ls st) rfl hsize (Steps.refl _) (a := a) (argsL := argsL) (rest := rest) hlen hstack (by show 2 * 0 + _ ≤ _; omega) hd (fun _ _ => ⟨rfl, eT, hc, hs⟩)
  dsimp only [Pt.U, Pt.locs, Pt.cells, Pt.slots] at X' r1 r2 r3 stp hQ
  subst r1 r2 r3
  exact own_tr _ _ stp (k v T' L X' hQ)
theorem own_callV (X : Stand p l e R s m args below meth c T locs cells slots) (hx : p.tables.exec = Jvm.exec) (hZ : Z.Warmed39 s.vm) {own C : String} {index : Nat} {y z : MethodName} {bytes : ByteArray} {maxL : Nat} {ret : Option FieldType} (hown : s.vm.findClass own = some m.cls)
    (w1 : (Cond.methodLink own index y).before a0 Z = true) (w2 : (Cond.declares y).before a0 Z = true) (hnf : NotFace s y) (w5 : (Cond.selects C y z).before a0 Z = true) (w6 : (Cond.instanceMethod z).before a0 Z = true) (w3 : (Cond.initialized z.cls).before a0 Z = true) (w4 : (Cond.code z bytes maxL ret).before a0 Z = true) (hy : y.cls ≠ "java/lang/invoke/MethodHandle" ∧ y.cls ≠ "java/lang/invoke/VarHandle")
    {rm : Room} (a : Addr) (argsL rest : List Value) {Qc : Option Value → Heap → List Loc → Prop} (E : Exa Z h a C) (M : own_Met l Z z bytes maxL ret rm (.ref a :: argsL).toArray h Qc) (W : Nat) (hf : rm.frames + 1 ≤ R.frames) (hl : W + (maxL + 11) + rm.locals ≤ R.locals) (eT : T.heap = h)
    {pc : Nat} {Ls : Array Slot} {st : List Value} (hsize : Ls.size = c.maxLocals) (hlen : ∀ sig, parseMethodDescriptor y.desc = some sig → argsL.length = sig.parameters.length) (hstack : st = argsL.reverse ++ .ref a :: rest) (hW : (rest.map fun v => v.category).sum ≤ W)
    (hd : decode c.code pc = .ok (.invokevirtual index, 3)) (hc : cells + rm.cells ≤ R.cells) (hs : slots + rm.slots ≤ R.slots)
    (k : ∀ v T' L, Stand p l e R s m args below meth c T' (locs ++ L) (cells + rm.cells) (slots + rm.slots) → Qc v T'.heap L → own_Out p e below s Q kc ks T' (mkF m (pc + 3) Ls (v.toList ++ rest))) : own_Out p e below s Q kc ks T (mkF m pc Ls st) := by
  obtain ⟨cq, kq, qa, qb, qc⟩ := isOf hZ eT E
  obtain ⟨v, vm1, ⟨T', L', c', n'⟩, -, X', ⟨L, hQ, r1, r2, r3⟩, stp⟩ := X.virtualBack hx (y := y) (z := z) hown (mvT hZ w1) (mvT hZ w2) hnf (mvT hZ w5) (mvT hZ w6) hy (backOf (W := W) (M []) hZ w4 w3 hf hl) qa qc (g := mkF m pc Ls st) rfl hsize (Steps.refl _) (argsL := argsL) (rest := rest) hlen hstack (by show 2 * 0 + _ ≤ _; omega) hd (fun _ _ => ⟨rfl, eT, hc, hs⟩)
  dsimp only [Pt.U, Pt.locs, Pt.cells, Pt.slots] at X' r1 r2 r3 stp hQ
  subst r1 r2 r3
  exact own_tr _ _ stp (k v T' L X' hQ)
theorem own_callI (X : Stand p l e R s m args below meth c T locs cells slots) (hx : p.tables.exec = Jvm.exec) (hZ : Z.Warmed39 s.vm) {own C : String} {index count : Nat} {xi y : MethodName} {bytes : ByteArray} {maxL : Nat} {ret : Option FieldType} (hown : s.vm.findClass own = some m.cls)
    (w1 : (Cond.methodLink own index xi).before args s = true) (w2 : (Cond.declares xi).before args s = true) (w7 : (Cond.interfaceMethod xi.cls xi.cls xi.name xi.desc).before args s = true) (w5 : (Cond.selects C xi y).before args s = true) (w6 : (Cond.instanceMethod y).before args s = true) (w8 : (Cond.publicMethod y).before args s = true) (w9 : (Cond.unhidden C xi.name xi.desc).before args s = true) (w10 : (Cond.castable C xi.cls).before args s = true) (w3 : (Cond.initialized y.cls).before a0 Z = true) (w4 : (Cond.code y bytes maxL ret).before a0 Z = true) (hy : xi.cls ≠ "java/lang/invoke/MethodHandle" ∧ xi.cls ≠ "java/lang/invoke/VarHandle")
    {rm : Room} (a : Addr) (argsL rest : List Value) {Qc : Option Value → Heap → List Loc → Prop} (E : Exa Z h a C) (M : own_Met l Z y bytes maxL ret rm (.ref a :: argsL).toArray h Qc) (W : Nat) (hf : rm.frames + 1 ≤ R.frames) (hl : W + (maxL + 11) + rm.locals ≤ R.locals) (eT : T.heap = h)
    {pc : Nat} {Ls : Array Slot} {st : List Value} (hsize : Ls.size = c.maxLocals) (hlen : ∀ sig, parseMethodDescriptor xi.desc = some sig → argsL.length = sig.parameters.length) (hstack : st = argsL.reverse ++ .ref a :: rest) (hW : (rest.map fun v => v.category).sum ≤ W)
    (hd : decode c.code pc = .ok (.invokeinterface index count, 5)) (hc : cells + rm.cells ≤ R.cells) (hs : slots + rm.slots ≤ R.slots)
    (k : ∀ v T' L, Stand p l e R s m args below meth c T' (locs ++ L) (cells + rm.cells) (slots + rm.slots) → Qc v T'.heap L → own_Out p e below s Q kc ks T' (mkF m (pc + 5) Ls (v.toList ++ rest))) : own_Out p e below s Q kc ks T (mkF m pc Ls st) := by
  obtain ⟨cq, kq, qa, qb, qc⟩ := isOf hZ eT E
  obtain ⟨v, vm1, ⟨T', L', c', n'⟩, -, X', ⟨L, hQ, r1, r2, r3⟩, stp⟩ := X.interfaceBack hx (xi := xi) (y := y) hown w1 w2 w7 w5 w6 w8 w9 w10 hy (backOf (W := W) (M []) hZ w4 w3 hf hl) qa qb qc (g := mkF m pc Ls st) rfl hsize (Steps.refl _) (argsL := argsL) (rest := rest) hlen hstack (by show 2 * 0 + _ ≤ _; omega) hd (fun _ _ => ⟨rfl, eT, hc, hs⟩)
  dsimp only [Pt.U, Pt.locs, Pt.cells, Pt.slots] at X' r1 r2 r3 stp hQ
  subst r1 r2 r3
  exact own_tr _ _ stp (k v T' L X' hQ)
theorem own_callP (X : Stand p l e R s m args below meth c T locs cells slots) (hx : p.tables.exec = Jvm.exec) (hZ : Z.Warmed39 s.vm) {own : String} {index : Nat} {y : MethodName} {bytes : ByteArray} {maxL : Nat} {ret : Option FieldType} (hown : s.vm.findClass own = some m.cls)
    (w1 : (Cond.methodLink own index y).before a0 Z = true) (w2 : (Cond.instanceMethod y).before a0 Z = true) (w5 : (Cond.selects y.cls y y).before a0 Z = true) (w6 : (Cond.privateMethod y).before a0 Z = true) (w3 : (Cond.initialized y.cls).before a0 Z = true) (w4 : (Cond.code y bytes maxL ret).before a0 Z = true) (hy : y.cls ≠ "java/lang/invoke/MethodHandle" ∧ y.cls ≠ "java/lang/invoke/VarHandle")
    {rm : Room} (a : Addr) (argsL rest : List Value) {C : String} {Qc : Option Value → Heap → List Loc → Prop} (E : Exa Z h a C) (M : own_Met l Z y bytes maxL ret rm (.ref a :: argsL).toArray h Qc) (W : Nat) (hf : rm.frames + 1 ≤ R.frames) (hl : W + (maxL + 11) + rm.locals ≤ R.locals) (eT : T.heap = h)
    {pc : Nat} {Ls : Array Slot} {st : List Value} (hsize : Ls.size = c.maxLocals) (hlen : ∀ sig, parseMethodDescriptor y.desc = some sig → argsL.length = sig.parameters.length) (hstack : st = argsL.reverse ++ .ref a :: rest) (hW : (rest.map fun v => v.category).sum ≤ W)
    (hd : decode c.code pc = .ok (.invokevirtual index, 3)) (hc : cells + rm.cells ≤ R.cells) (hs : slots + rm.slots ≤ R.slots)
    (k : ∀ v T' L, Stand p l e R s m args below meth c T' (locs ++ L) (cells + rm.cells) (slots + rm.slots) → Qc v T'.heap L → own_Out p e below s Q kc ks T' (mkF m (pc + 3) Ls (v.toList ++ rest))) : own_Out p e below s Q kc ks T (mkF m pc Ls st) := by
  obtain ⟨cq, qa, qb⟩ := E.cell
  obtain ⟨v, vm1, ⟨T', L', c', n'⟩, -, X', ⟨L, hQ, r1, r2, r3⟩, stp⟩ := X.privateBack hx (y := y) (bytes := bytes) (maxL := maxL) (ret := ret) hown (mvT hZ w1) (mvT hZ w2) (mvT hZ w5) (Cond.privateMethod_at (mvP hZ w6 (args := #[]))) (mvT hZ w4) hy (backOf (W := W) (M []) hZ w4 w3 hf hl) (g := mkF m pc Ls st) rfl hsize (Steps.refl _) (a := a) (by rw [eT]; exact qa) qb (argsL := argsL) (rest := rest) hlen hstack (by show 2 * 0 + _ ≤ _; omega) hd (fun _ _ => ⟨rfl, eT, hc, hs⟩)
  dsimp only [Pt.U, Pt.locs, Pt.cells, Pt.slots] at X' r1 r2 r3 stp hQ
  subst r1 r2 r3
  exact own_tr _ _ stp (k v T' L X' hQ)
/-- an array by its values: n places, place i holds f i -/
def own_A (Z : State) (h : Heap) (a : Addr) (k : ClassId) (ty : FieldType) (n : Nat) (f : Nat → Value) : Prop := ∃ cl : Cell, Arr Z h a cl ty ∧ cl.cls = k ∧ cl.slots.size = n ∧ n < 2 ^ 31 ∧ ∀ i, i < n → cl.slots[i]? = some (f i)
variable {a b : Addr} {k : ClassId} {ty : FieldType} {n : Nat} {f f' : Nat → Value} {sl : Nat} {v : Value} {ws : List Addr}
theorem own_A.lt (F : own_A Z h a k ty n f) : a < h.size := by obtain ⟨c, A, -⟩ := F; exact A.lt
theorem own_A.ext (F : own_A Z h a k ty n f) (E : Ext h h') : own_A Z h' a k ty n f := by obtain ⟨c, A, r⟩ := F; exact ⟨c, A.ext E, r⟩
theorem own_A.other (F : own_A Z h b k ty n f) (W : Wr h h' a sl v) (q : b ≠ a) : own_A Z h' b k ty n f := by obtain ⟨c, A, r⟩ := F; exact ⟨c, A.other W q, r⟩
theorem own_A.keep (F : own_A Z h a k ty n f) (K : Keep h h' ws) (q : a ∉ ws) : own_A Z h' a k ty n f := by obtain ⟨c, A, r⟩ := F; exact ⟨c, ⟨K.2.1 a c A.1 q, A.2⟩, r⟩
theorem own_A.cong (F : own_A Z h a k ty n f) (q : ∀ i, i < n → f i = f' i) : own_A Z h a k ty n f' := by obtain ⟨c, A, r1, r2, r3, r4⟩ := F; exact ⟨c, A, r1, r2, r3, fun i hi => by rw [r4 i hi, q i hi]⟩
theorem own_A.new {z : Int32} (A : Arr Z h a (newA k ty z) ty) (q : ¬ z < 0) : own_A Z h a k ty z.toNatClampNeg (fun _ => defaultValue ty) := ⟨_, A, rfl, sz_new _ _ _, (back32 q).2, fun i hi => by simp [newA, hi]⟩
theorem own_A.newL {z : Int32} (A : Arr Z h a (newA k ty z) ty) (q : ¬ z < 0) (n : Nat) (hn : z.toNatClampNeg = n) (d : Value) (hd : defaultValue ty = d) : own_A Z h a k ty n (fun i => (List.replicate n d).getD i d) := by
  subst hn hd
  refine (own_A.new A q).cong fun i hi => ?_
  simp [List.getD_eq_getElem?_getD, List.getElem?_replicate, hi]
theorem own_jn {j : Int32} {i : Nat} (q : j.toInt = (i : Int)) : j.toNatClampNeg = i := by simp only [Int32.toNatClampNeg]; omega
theorem own_in {j : Int32} {i n : Nat} {cl : Cell} (q : j.toInt = (i : Int)) (hi : i < n) (S : cl.slots.size = n) : ¬ (j < 0 ∨ cl.slots.size ≤ j.toNatClampNeg) := by
  rw [own_jn q, Int32.lt_iff_toInt_lt, q, S]; have : (0 : Int32).toInt = 0 := rfl; omega
theorem own_A.set (F : own_A Z h a k ty n f) {i : Nat} (hi : i < n) (W : Wr h h' a i v) : own_A Z h' a k ty n (fun x => if x = i then v else f x) := by
  obtain ⟨cl, A, r1, r2, r3, r4⟩ := F
  refine ⟨_, A.same W, r1, by rw [sz_set]; exact r2, r3, fun x hx => ?_⟩
  by_cases q : x = i
  · subst q; simp [Cell.setSlot, r2, hi]
  · show (cl.slots.setIfInBounds i v)[x]? = _
    rw [Array.getElem?_setIfInBounds_ne (Ne.symm q)]; simp only [q, if_false]; exact r4 x hx
theorem own_A.setL {L : List Value} {d : Value} (F : own_A Z h a k ty n (fun x => L.getD x d)) {i : Nat} (hi : i < n) (hL : i < L.length) (W : Wr h h' a i v) : own_A Z h' a k ty n (fun x => (L.set i v).getD x d) := by
  refine (F.set hi W).cong fun x hx => ?_
  by_cases q : x = i
  · subst q; simp [List.getD_eq_getElem?_getD, List.getElem?_set, hL]
  · simp [List.getD_eq_getElem?_getD, List.getElem?_set, q, Ne.symm q]
theorem own_A.setI {b : Nat → Int32} {x : Int32} (F : own_A Z h a k ty n (fun y => .int (b y))) {i : Nat} (hi : i < n) (W : Wr h h' a i (.int x)) : own_A Z h' a k ty n (fun y => .int (if y = i then x else b y)) := by
  refine (F.set hi W).cong fun y hy => ?_
  by_cases q : y = i <;> simp [q]
theorem own_A.setLI {L : List Int32} {x : Int32} (F : own_A Z h a k ty n (fun y => .int (L.getD y 0))) {i : Nat} (hi : i < n) (hL : i < L.length) (W : Wr h h' a i (.int x)) : own_A Z h' a k ty n (fun y => .int ((L.set i x).getD y 0)) := by
  refine (F.setI hi W).cong fun y hy => ?_
  by_cases q : y = i
  · subst q; simp [List.getD_eq_getElem?_getD, List.getElem?_set, hL]
  · simp [List.getD_eq_getElem?_getD, List.getElem?_set, q, Ne.symm q]
theorem own_A.snocI {L : List Int32} {x : Int32} (F : own_A Z h a k ty n (fun y => .int (L.getD y 0))) {i : Nat} (hi : i < n) (hL : L.length = i) (W : Wr h h' a i (.int x)) : own_A Z h' a k ty n (fun y => .int ((L ++ [x]).getD y 0)) := by
  refine (F.setI hi W).cong fun y hy => ?_
  by_cases q : y = i
  · subst q; subst hL; simp [List.getD_eq_getElem?_getD]
  · by_cases r : y < L.length
    · simp [List.getD_eq_getElem?_getD, q, List.getElem?_append_left r]
    · have h1 : L[y]? = none := List.getElem?_eq_none (by omega)
      have h2 : (L ++ [x])[y]? = none := List.getElem?_eq_none (by simp; omega)
      simp [List.getD_eq_getElem?_getD, q, h1, h2]
theorem own_A.newI {z : Int32} (A : Arr Z h a (newA k ty z) ty) (q : ¬ z < 0) (n : Nat) (hn : z.toNatClampNeg = n) (hd : defaultValue ty = .int 0) : own_A Z h a k ty n (fun _ => .int 0) := by
  subst hn; rw [← hd]; exact own_A.new A q
theorem own_A.newLI {z : Int32} (A : Arr Z h a (newA k ty z) ty) (q : ¬ z < 0) (n : Nat) (hn : z.toNatClampNeg = n) (hd : defaultValue ty = .int 0) : own_A Z h a k ty n (fun y => .int ((List.replicate n (0 : Int32)).getD y 0)) := by
  refine (own_A.newI A q n hn hd).cong fun i hi => ?_
  simp [List.getD_eq_getElem?_getD, List.getElem?_replicate, hi]
theorem own_stI (X : Stand p l e R s m args below meth c T locs cells slots) (hx : p.tables.exec = Jvm.exec) (hZ : Z.Warmed39 s.vm) (eT : T.heap = h) (F : own_A Z h a k .int n f) {j x : Int32} (i : Nat) (q : j.toInt = (i : Int)) (hi : i < n) {pc : Nat} {Ls : Array Slot} {rest : List Value} (hd : decode c.code pc = .ok (.iastore, 1)) :
    ∃ T' h', Stand p l e R s m args below meth c T' (locs ++ [⟨a, i⟩]) cells slots ∧ T'.heap = h' ∧ Wr h h' a i (.int x) ∧ ∀ t, Steps p.tables e below (T'.setTop (mkF m (pc + 1) Ls rest)) t → Steps p.tables e below (T.setTop (mkF m pc Ls (.int x :: .int j :: .ref a :: rest))) t := by
  obtain ⟨cl, A, r1, r2, r3, r4⟩ := F
  have := stI X hx hZ eT A (j := j) (x := x) (own_in q hi r2) (g := mkF m pc Ls (.int x :: .int j :: .ref a :: rest)) rfl rfl hd
  rw [own_jn q] at this; exact this
theorem own_stB (X : Stand p l e R s m args below meth c T locs cells slots) (hx : p.tables.exec = Jvm.exec) (hZ : Z.Warmed39 s.vm) (eT : T.heap = h) (F : own_A Z h a k .byte n f) {j x : Int32} (x' : Int32) (hx' : nar .byte x = x') (i : Nat) (q : j.toInt = (i : Int)) (hi : i < n) {pc : Nat} {Ls : Array Slot} {rest : List Value} (hd : decode c.code pc = .ok (.bastore, 1)) :
    ∃ T' h', Stand p l e R s m args below meth c T' (locs ++ [⟨a, i⟩]) cells slots ∧ T'.heap = h' ∧ Wr h h' a i (.int x') ∧ ∀ t, Steps p.tables e below (T'.setTop (mkF m (pc + 1) Ls rest)) t → Steps p.tables e below (T.setTop (mkF m pc Ls (.int x :: .int j :: .ref a :: rest))) t := by
  obtain ⟨cl, A, r1, r2, r3, r4⟩ := F
  have := stB X hx hZ eT A (j := j) (x := x) (own_in q hi r2) (g := mkF m pc Ls (.int x :: .int j :: .ref a :: rest)) rfl rfl hd
  rw [own_jn q] at this; subst hx'; exact this
theorem own_stC (X : Stand p l e R s m args below meth c T locs cells slots) (hx : p.tables.exec = Jvm.exec) (hZ : Z.Warmed39 s.vm) (eT : T.heap = h) (F : own_A Z h a k .char n f) {j x : Int32} (x' : Int32) (hx' : nar .char x = x') (i : Nat) (q : j.toInt = (i : Int)) (hi : i < n) {pc : Nat} {Ls : Array Slot} {rest : List Value} (hd : decode c.code pc = .ok (.castore, 1)) :
    ∃ T' h', Stand p l e R s m args below meth c T' (locs ++ [⟨a, i⟩]) cells slots ∧ T'.heap = h' ∧ Wr h h' a i (.int x') ∧ ∀ t, Steps p.tables e below (T'.setTop (mkF m (pc + 1) Ls rest)) t → Steps p.tables e below (T.setTop (mkF m pc Ls (.int x :: .int j :: .ref a :: rest))) t := by
  obtain ⟨cl, A, r1, r2, r3, r4⟩ := F
  have := stC X hx hZ eT A (j := j) (x := x) (own_in q hi r2) (g := mkF m pc Ls (.int x :: .int j :: .ref a :: rest)) rfl rfl hd
  rw [own_jn q] at this; subst hx'; exact this
theorem own_stR (X : Stand p l e R s m args below meth c T locs cells slots) (hx : p.tables.exec = Jvm.exec) (hZ : Z.Warmed39 s.vm) (eT : T.heap = h) {C : String} (F : own_A Z h a k (.object C) n f) {j : Int32} {v : Value} (O : Ovr Z k C) (I : v = .null ∨ ∃ y, v = .ref y ∧ Ins Z h y C true) (i : Nat) (q : j.toInt = (i : Int)) (hi : i < n) {pc : Nat} {Ls : Array Slot} {rest : List Value} (hd : decode c.code pc = .ok (.aastore, 1)) :
    ∃ T' h', Stand p l e R s m args below meth c T' (locs ++ [⟨a, i⟩]) cells slots ∧ T'.heap = h' ∧ Wr h h' a i v ∧ ∀ t, Steps p.tables e below (T'.setTop (mkF m (pc + 1) Ls rest)) t → Steps p.tables e below (T.setTop (mkF m pc Ls (v :: .int j :: .ref a :: rest))) t := by
  obtain ⟨cl, A, r1, r2, r3, r4⟩ := F
  have S : Sto Z h a v := by
    rcases I with rfl | ⟨y, rfl, I⟩
    · exact Or.inl rfl
    · exact Sto.ofV A r1 O I
  have := stR X hx hZ eT A (j := j) (own_in q hi r2) rfl S (g := mkF m pc Ls (v :: .int j :: .ref a :: rest)) rfl rfl hd
  rw [own_jn q] at this; exact this
theorem own_stRA (X : Stand p l e R s m args below meth c T locs cells slots) (hx : p.tables.exec = Jvm.exec) (hZ : Z.Warmed39 s.vm) (eT : T.heap = h) {C : String} {t0 : FieldType} (F : own_A Z h a k (.array t0) n f) {j : Int32} {v : Value} (O : OvrA Z k t0 C) (I : v = .null ∨ ∃ y, v = .ref y ∧ Ins Z h y C true) (i : Nat) (q : j.toInt = (i : Int)) (hi : i < n) {pc : Nat} {Ls : Array Slot} {rest : List Value} (hd : decode c.code pc = .ok (.aastore, 1)) :
    ∃ T' h', Stand p l e R s m args below meth c T' (locs ++ [⟨a, i⟩]) cells slots ∧ T'.heap = h' ∧ Wr h h' a i v ∧ ∀ t, Steps p.tables e below (T'.setTop (mkF m (pc + 1) Ls rest)) t → Steps p.tables e below (T.setTop (mkF m pc Ls (v :: .int j :: .ref a :: rest))) t := by
  obtain ⟨cl, A, r1, r2, r3, r4⟩ := F
  have S : Sto Z h a v := by
    rcases I with rfl | ⟨y, rfl, I⟩
    · exact Or.inl rfl
    · exact Sto.ofVA A r1 O I
  have := stR X hx hZ eT A (j := j) (own_in q hi r2) rfl S (g := mkF m pc Ls (v :: .int j :: .ref a :: rest)) rfl rfl hd
  rw [own_jn q] at this; exact this
theorem own_ldI (X : Stand p l e R s m args below meth c T locs cells slots) (hx : p.tables.exec = Jvm.exec) (hZ : Z.Warmed39 s.vm) (eT : T.heap = h) (F : own_A Z h a k .int n f) {j : Int32} (i : Nat) (q : j.toInt = (i : Int)) (hi : i < n) {pc : Nat} {Ls : Array Slot} {rest : List Value} (hd : decode c.code pc = .ok (.iaload, 1)) :
    ∀ t, Steps p.tables e below (T.setTop (mkF m (pc + 1) Ls (f i :: rest))) t → Steps p.tables e below (T.setTop (mkF m pc Ls (.int j :: .ref a :: rest))) t := fun t kt => by
  obtain ⟨cl, A, r1, r2, r3, r4⟩ := F
  exact X.iaload hx (j := j) (v := f i) (by rw [eT]; exact A.1) (State.isArrayOf_alike hZ.alike A.2.1) A.2.2 (own_in q hi r2) (by rw [own_jn q]; exact r4 i hi) (g := mkF m pc Ls (.int j :: .ref a :: rest)) rfl rfl hd _ kt
theorem own_ldB (X : Stand p l e R s m args below meth c T locs cells slots) (hx : p.tables.exec = Jvm.exec) (hZ : Z.Warmed39 s.vm) (eT : T.heap = h) (F : own_A Z h a k .byte n f) {j : Int32} (i : Nat) (q : j.toInt = (i : Int)) (hi : i < n) {pc : Nat} {Ls : Array Slot} {rest : List Value} (hd : decode c.code pc = .ok (.baload, 1)) :
    ∀ t, Steps p.tables e below (T.setTop (mkF m (pc + 1) Ls (f i :: rest))) t → Steps p.tables e below (T.setTop (mkF m pc Ls (.int j :: .ref a :: rest))) t := fun t kt => by
  obtain ⟨cl, A, r1, r2, r3, r4⟩ := F
  exact X.baloadBytes hx (j := j) (v := f i) (by rw [eT]; exact A.1) (State.isArrayOf_alike hZ.alike A.2.1) A.2.2 (own_in q hi r2) (by rw [own_jn q]; exact r4 i hi) (g := mkF m pc Ls (.int j :: .ref a :: rest)) rfl rfl hd _ kt
theorem own_ldC (X : Stand p l e R s m args below meth c T locs cells slots) (hx : p.tables.exec = Jvm.exec) (hZ : Z.Warmed39 s.vm) (eT : T.heap = h) (F : own_A Z h a k .char n f) {j : Int32} (i : Nat) (q : j.toInt = (i : Int)) (hi : i < n) {pc : Nat} {Ls : Array Slot} {rest : List Value} (hd : decode c.code pc = .ok (.caload, 1)) :
    ∀ t, Steps p.tables e below (T.setTop (mkF m (pc + 1) Ls (f i :: rest))) t → Steps p.tables e below (T.setTop (mkF m pc Ls (.int j :: .ref a :: rest))) t := fun t kt => by
  obtain ⟨cl, A, r1, r2, r3, r4⟩ := F
  exact X.caload hx (j := j) (v := f i) (by rw [eT]; exact A.1) (State.isArrayOf_alike hZ.alike A.2.1) A.2.2 (own_in q hi r2) (by rw [own_jn q]; exact r4 i hi) (g := mkF m pc Ls (.int j :: .ref a :: rest)) rfl rfl hd _ kt
theorem own_ldR (X : Stand p l e R s m args below meth c T locs cells slots) (hx : p.tables.exec = Jvm.exec) (hZ : Z.Warmed39 s.vm) (eT : T.heap = h) (F : own_A Z h a k ty n f) (hty : ty.isReference = true) {j : Int32} (i : Nat) (q : j.toInt = (i : Int)) (hi : i < n) {pc : Nat} {Ls : Array Slot} {rest : List Value} (hd : decode c.code pc = .ok (.aaload, 1)) :
    ∀ t, Steps p.tables e below (T.setTop (mkF m (pc + 1) Ls (f i :: rest))) t → Steps p.tables e below (T.setTop (mkF m pc Ls (.int j :: .ref a :: rest))) t := fun t kt => by
  obtain ⟨cl, A, r1, r2, r3, r4⟩ := F
  exact X.aaload hx (j := j) (v := f i) (by rw [eT]; exact A.1) (State.isArrayOf_alike hZ.alike A.2.1) hty A.2.2 (own_in q hi r2) (by rw [own_jn q]; exact r4 i hi) (g := mkF m pc Ls (.int j :: .ref a :: rest)) rfl rfl hd _ kt
theorem own_len (X : Stand p l e R s m args below meth c T locs cells slots) (hx : p.tables.exec = Jvm.exec) (hZ : Z.Warmed39 s.vm) (eT : T.heap = h) (F : own_A Z h a k ty n f) {pc : Nat} {Ls : Array Slot} {rest : List Value} (hd : decode c.code pc = .ok (.arraylength, 1)) (z : Int32) (hz : z.toInt = (n : Int)) :
    ∀ t, Steps p.tables e below (T.setTop (mkF m (pc + 1) Ls (.int z :: rest))) t → Steps p.tables e below (T.setTop (mkF m pc Ls (.ref a :: rest))) t := fun t kt => by
  obtain ⟨cl, A, r1, r2, r3, r4⟩ := F
  have q : cl.slots.size.toInt32 = z := by
    apply Int32.toInt_inj.mp; rw [r2, hz]; exact len_toInt r3
  exact X.arraylength hx (by rw [eT]; exact A.1) (State.isArrayOf_alike hZ.alike A.2.1) (g := mkF m pc Ls (.ref a :: rest)) rfl rfl hd _ (by rw [q]; exact kt)
theorem own_cat {w : Value} (h : w.isRef = true) : w.category = 1 := by cases w <;> first | rfl | cases h
theorem own_nb (x : Int32) : nar .byte x.toInt8.toInt32 = x.toInt8.toInt32 := by simp [nar]
theorem own_nc (x : Int32) : nar .char x.toUInt32.toUInt16.toUInt32.toInt32 = x.toUInt32.toUInt16.toUInt32.toInt32 := by
  have := Jvm.Free.XT.narrow_c x
  simpa [nar, narrow] using this
theorem own_nz {z : Int32} (q : z = 0 ∨ z = 1) : nar .boolean z = z := by rcases q with rfl | rfl <;> rfl
theorem own_bt {P : Prop} [Decidable P] (q : P) : ¬ ((if P then (1 : Int32) else 0) = 0) := by simp [q]
theorem own_bf {P : Prop} [Decidable P] (q : ¬ P) : (if P then (1 : Int32) else 0) = 0 := by simp [q]
theorem own_nt {P : Prop} [Decidable P] (q : P) : (if P then (0 : Int32) else 1) = 0 := by simp [q]
theorem own_nf {P : Prop} [Decidable P] (q : ¬ P) : ¬ ((if P then (0 : Int32) else 1) = 0) := by simp [q]
theorem own_lrem {target : State} (X : Stand p l e R s m args below meth c T locs cells slots) (hx : p.tables.exec = Jvm.exec) (hg : g.method = m) {x y : Int64} {rest : List Value} (hd : decode c.code g.pc = .ok (.lrem, 1)) (hs : g.stack = .long y :: .long x :: rest) (hy : y ≠ 0)
    (hr : Steps p.tables e below (T.setTop { g with pc := g.pc + 1, stack := .long (x % y) :: rest }) target) : Steps p.tables e below (T.setTop g) target := XS.lrem X.here hx hg hd hs hy (by rw [lrem_mod]; exact hr)
end OwnKit
theorem dmethod_3_code_0 : decode method_3_code 0 = .ok (.iload_n 0, 1) := by decide +kernel
theorem dmethod_3_code_1 : decode method_3_code 1 = .ok (.iconst 4, 1) := by decide +kernel
theorem dmethod_3_code_2 : decode method_3_code 2 = .ok (.if_icmp .ge 11, 3) := by decide +kernel
theorem dmethod_3_code_5 : decode method_3_code 5 = .ok (.bipush 48, 2) := by decide +kernel
theorem dmethod_3_code_7 : decode method_3_code 7 = .ok (.iload_n 0, 1) := by decide +kernel
theorem dmethod_3_code_8 : decode method_3_code 8 = .ok (.iadd, 1) := by decide +kernel
theorem dmethod_3_code_9 : decode method_3_code 9 = .ok (.i2c, 1) := by decide +kernel
theorem dmethod_3_code_10 : decode method_3_code 10 = .ok (.goto 8, 3) := by decide +kernel
theorem dmethod_3_code_13 : decode method_3_code 13 = .ok (.bipush 65, 2) := by decide +kernel
theorem dmethod_3_code_15 : decode method_3_code 15 = .ok (.iload_n 0, 1) := by decide +kernel
theorem dmethod_3_code_16 : decode method_3_code 16 = .ok (.iadd, 1) := by decide +kernel
theorem dmethod_3_code_17 : decode method_3_code 17 = .ok (.i2c, 1) := by decide +kernel
theorem dmethod_3_code_18 : decode method_3_code 18 = .ok (.ireturn, 1) := by decide +kernel
theorem ef_rm1 (m_ : MethodId) (slot : Int32) : entryFrame m_ #[(.int slot)] 1 = mkF m_ 0 #[.val (.int slot)] [] := by first | (simp [entryFrame, mkF, argsToLocals, Value.category]; done) | rfl
theorem own_pn0 : plainName "com/example/banksum/banksum/iban/IbanRemainderPinLaw" = true := by first | (simp [plainName, overriddenIn]; done) | decide +kernel
def f1 (slot : Int32) : Int32 := (if slot < (4 : Int32) then (((48 : Int32) + slot).toUInt32.toUInt16.toUInt32.toInt32) else (((65 : Int32) + slot).toUInt32.toUInt16.toUInt32.toInt32))
set_option maxRecDepth 65536 in
set_option maxHeartbeats 40000000 in
theorem rm1 (l : Launch) (Z : State) (a0 : Array Value) (hw : ∀ d ∈ tables_1, d.before a0 Z = true) (slot : Int32) (h0 : Heap) (n0 : Nat) (Z0 : n0 ≤ h0.size)  :
    own_Met l Z (⟨"com/example/banksum/banksum/iban/IbanRemainderPinLaw", "code", "(I)C"⟩ : MethodName) method_3_code 1 (some .char) ({ frames := 0, cells := 0, slots := 0, locals := 0 } : Room) #[(.int slot)] h0 (fun v h L => v = some (.int (f1 slot)) ∧ Fr n0 L ∧ h = h0) := by
  refine own_body #[.val (.int slot)] (plainFor_of_name own_pn0) (fun m_ => ef_rm1 m_ slot) ?_
  intro p_ e_ s_ m_ below meth c_ s₁ X0 hx hby hml hret hlk hZ hown hnm e0
  have N0 := Fr.nil n0
  show own_Out p_ e_ below s_ _ _ _ s₁ (mkF m_ 0 #[.val (.int slot)] [])
  refine own_st s₁ (mkF m_ 18 #[.val (.int slot)] [(.int (if slot < (4 : Int32) then (((48 : Int32) + slot).toUInt32.toUInt16.toUInt32.toInt32) else (((65 : Int32) + slot).toUInt32.toUInt16.toUInt32.toInt32)))]) (fun t_ k_ => ?_) ?_
  · refine XS.iloadN X0.here hx rfl (hb hby dmethod_3_code_0) rfl ?_
    show Steps p_.tables e_ below (s₁.setTop (mkF m_ 1 #[.val (.int slot)] [(.int slot)])) t_
    refine XS.iconst X0.here hx rfl (hb hby dmethod_3_code_1) ?_
    show Steps p_.tables e_ below (s₁.setTop (mkF m_ 2 #[.val (.int slot)] [(.int (4 : Int32)), (.int slot)])) t_
    have jn2 : ∀ t_, Steps p_.tables e_ below (s₁.setTop (mkF m_ 18 #[.val (.int slot)] [(.int (if slot < (4 : Int32) then (((48 : Int32) + slot).toUInt32.toUInt16.toUInt32.toInt32) else (((65 : Int32) + slot).toUInt32.toUInt16.toUInt32.toInt32)))])) t_ → Steps p_.tables e_ below (s₁.setTop (mkF m_ 2 #[.val (.int slot)] [(.int (4 : Int32)), (.int slot)])) t_ := by
      intro t_ k_
      by_cases hc2 : slot < (4 : Int32)
      · refine XS.icmpNo X0.here hx rfl (hb hby dmethod_3_code_2) rfl (tlt hc2).2.1 ?_
        show Steps p_.tables e_ below (s₁.setTop (mkF m_ 5 #[.val (.int slot)] [])) t_
        refine XS.bipush X0.here hx rfl (hb hby dmethod_3_code_5) ?_
        show Steps p_.tables e_ below (s₁.setTop (mkF m_ 7 #[.val (.int slot)] [(.int (48 : Int32))])) t_
        refine XS.iloadN X0.here hx rfl (hb hby dmethod_3_code_7) rfl ?_
        show Steps p_.tables e_ below (s₁.setTop (mkF m_ 8 #[.val (.int slot)] [(.int slot), (.int (48 : Int32))])) t_
        refine XS.iadd X0.here hx rfl (hb hby dmethod_3_code_8) rfl ?_
        show Steps p_.tables e_ below (s₁.setTop (mkF m_ 9 #[.val (.int slot)] [(.int ((48 : Int32) + slot))])) t_
        refine XS.i2c X0.here hx rfl (hb hby dmethod_3_code_9) rfl ?_
        show Steps p_.tables e_ below (s₁.setTop (mkF m_ 10 #[.val (.int slot)] [(.int (((48 : Int32) + slot).toUInt32.toUInt16.toUInt32.toInt32))])) t_
        refine XS.goto X0.here hx rfl (pc0 := 10) (pc' := 18) rfl (hb hby dmethod_3_code_10) (by decide) (by decide) ?_
        show Steps p_.tables e_ below (s₁.setTop (mkF m_ 18 #[.val (.int slot)] [(.int (((48 : Int32) + slot).toUInt32.toUInt16.toUInt32.toInt32))])) t_
        simp only [if_pos hc2] at k_
        exact k_
      · refine XS.icmpYes X0.here hx rfl (pc0 := 2) (pc' := 13) rfl (hb hby dmethod_3_code_2) rfl (flt hc2).2.1 (by decide) (by decide) ?_
        show Steps p_.tables e_ below (s₁.setTop (mkF m_ 13 #[.val (.int slot)] [])) t_
        refine XS.bipush X0.here hx rfl (hb hby dmethod_3_code_13) ?_
        show Steps p_.tables e_ below (s₁.setTop (mkF m_ 15 #[.val (.int slot)] [(.int (65 : Int32))])) t_
        refine XS.iloadN X0.here hx rfl (hb hby dmethod_3_code_15) rfl ?_
        show Steps p_.tables e_ below (s₁.setTop (mkF m_ 16 #[.val (.int slot)] [(.int slot), (.int (65 : Int32))])) t_
        refine XS.iadd X0.here hx rfl (hb hby dmethod_3_code_16) rfl ?_
        show Steps p_.tables e_ below (s₁.setTop (mkF m_ 17 #[.val (.int slot)] [(.int ((65 : Int32) + slot))])) t_
        refine XS.i2c X0.here hx rfl (hb hby dmethod_3_code_17) rfl ?_
        show Steps p_.tables e_ below (s₁.setTop (mkF m_ 18 #[.val (.int slot)] [(.int (((65 : Int32) + slot).toUInt32.toUInt16.toUInt32.toInt32))])) t_
        simp only [if_neg hc2] at k_
        exact k_
    refine jn2 _ ?_
    show Steps p_.tables e_ below (s₁.setTop (mkF m_ 18 #[.val (.int slot)] [(.int (if slot < (4 : Int32) then (((48 : Int32) + slot).toUInt32.toUInt16.toUInt32.toInt32) else (((65 : Int32) + slot).toUInt32.toUInt16.toUInt32.toInt32)))])) t_
    exact k_
  refine own_retN X0 hx hlk (t := .char) hret (by simp) (hb hby dmethod_3_code_18) (by decide) (by decide) ?_
  rw [e0]
  rw [(show nar .char (if slot < (4 : Int32) then (((48 : Int32) + slot).toUInt32.toUInt16.toUInt32.toInt32) else (((65 : Int32) + slot).toUInt32.toUInt16.toUInt32.toInt32)) = (if slot < (4 : Int32) then (((48 : Int32) + slot).toUInt32.toUInt16.toUInt32.toInt32) else (((65 : Int32) + slot).toUInt32.toUInt16.toUInt32.toInt32)) from by split <;> exact own_nc _)]
  exact ⟨by simp only [f1], N0, rfl⟩
theorem dmethod_4_code_0 : decode method_4_code 0 = .ok (.lload_n 0, 1) := by decide +kernel
theorem dmethod_4_code_1 : decode method_4_code 1 = .ok (.bipush 7, 2) := by decide +kernel
theorem dmethod_4_code_3 : decode method_4_code 3 = .ok (.iload_n 2, 1) := by decide +kernel
theorem dmethod_4_code_4 : decode method_4_code 4 = .ok (.imul, 1) := by decide +kernel
theorem dmethod_4_code_5 : decode method_4_code 5 = .ok (.lushr, 1) := by decide +kernel
theorem dmethod_4_code_6 : decode method_4_code 6 = .ok (.ldc2_w 32, 3) := by decide +kernel
theorem dmethod_4_code_9 : decode method_4_code 9 = .ok (.land, 1) := by decide +kernel
theorem dmethod_4_code_10 : decode method_4_code 10 = .ok (.ldc2_w 34, 3) := by decide +kernel
theorem dmethod_4_code_13 : decode method_4_code 13 = .ok (.lrem, 1) := by decide +kernel
theorem dmethod_4_code_14 : decode method_4_code 14 = .ok (.l2i, 1) := by decide +kernel
theorem dmethod_4_code_15 : decode method_4_code 15 = .ok (.i2b, 1) := by decide +kernel
theorem dmethod_4_code_16 : decode method_4_code 16 = .ok (.ireturn, 1) := by decide +kernel
theorem ef_rm2 (m_ : MethodId) (vals : Int64) (k : Int32) : entryFrame m_ #[(.long vals), (.int k)] 3 = mkF m_ 0 #[.val (.long vals), .second, .val (.int k)] [] := by first | (simp [entryFrame, mkF, argsToLocals, Value.category]; done) | rfl
def f2 (vals : Int64) (k : Int32) : Int32 := ((((((vals.toUInt64 >>> (((7 : Int32) * k) &&& 0x3f).toInt64.toUInt64).toInt64) &&& (127 : Int64)) % (100 : Int64)).toInt32).toInt8.toInt32)
set_option maxRecDepth 65536 in
set_option maxHeartbeats 40000000 in
theorem rm2 (l : Launch) (Z : State) (a0 : Array Value) (hw : ∀ d ∈ tables_1, d.before a0 Z = true) (vals : Int64) (k : Int32) (h0 : Heap) (n0 : Nat) (Z0 : n0 ≤ h0.size)  :
    own_Met l Z (⟨"com/example/banksum/banksum/iban/IbanRemainderPinLaw", "val", "(JI)B"⟩ : MethodName) method_4_code 3 (some .byte) ({ frames := 0, cells := 0, slots := 0, locals := 0 } : Room) #[(.long vals), (.int k)] h0 (fun v h L => v = some (.int (f2 vals k)) ∧ Fr n0 L ∧ h = h0) := by
  refine own_body #[.val (.long vals), .second, .val (.int k)] (plainFor_of_name own_pn0) (fun m_ => ef_rm2 m_ vals k) ?_
  intro p_ e_ s_ m_ below meth c_ s₁ X0 hx hby hml hret hlk hZ hown hnm e0
  have N0 := Fr.nil n0
  show own_Out p_ e_ below s_ _ _ _ s₁ (mkF m_ 0 #[.val (.long vals), .second, .val (.int k)] [])
  refine own_st s₁ (mkF m_ 16 #[.val (.long vals), .second, .val (.int k)] [(.int ((((((vals.toUInt64 >>> (((7 : Int32) * k) &&& 0x3f).toInt64.toUInt64).toInt64) &&& (127 : Int64)) % (100 : Int64)).toInt32).toInt8.toInt32))]) (fun t_ k_ => ?_) ?_
  · refine XS.lloadN X0.here hx rfl (hb hby dmethod_4_code_0) rfl ?_
    show Steps p_.tables e_ below (s₁.setTop (mkF m_ 1 #[.val (.long vals), .second, .val (.int k)] [(.long vals)])) t_
    refine XS.bipush X0.here hx rfl (hb hby dmethod_4_code_1) ?_
    show Steps p_.tables e_ below (s₁.setTop (mkF m_ 3 #[.val (.long vals), .second, .val (.int k)] [(.int (7 : Int32)), (.long vals)])) t_
    refine XS.iloadN X0.here hx rfl (hb hby dmethod_4_code_3) rfl ?_
    show Steps p_.tables e_ below (s₁.setTop (mkF m_ 4 #[.val (.long vals), .second, .val (.int k)] [(.int k), (.int (7 : Int32)), (.long vals)])) t_
    refine XS.imul X0.here hx rfl (hb hby dmethod_4_code_4) rfl ?_
    show Steps p_.tables e_ below (s₁.setTop (mkF m_ 5 #[.val (.long vals), .second, .val (.int k)] [(.int ((7 : Int32) * k)), (.long vals)])) t_
    refine XS.lushr X0.here hx rfl (hb hby dmethod_4_code_5) rfl ?_
    show Steps p_.tables e_ below (s₁.setTop (mkF m_ 6 #[.val (.long vals), .second, .val (.int k)] [(.long ((vals.toUInt64 >>> (((7 : Int32) * k) &&& 0x3f).toInt64.toUInt64).toInt64))])) t_
    refine X0.ldc2Long hx hown (mvT hZ (hw _ (List.mem_of_getElem? (i := 8) rfl))) (g := (mkF m_ 6 #[.val (.long vals), .second, .val (.int k)] [(.long ((vals.toUInt64 >>> (((7 : Int32) * k) &&& 0x3f).toInt64.toUInt64).toInt64))])) rfl (hb hby dmethod_4_code_6) _ ?_
    show Steps p_.tables e_ below (s₁.setTop (mkF m_ 9 #[.val (.long vals), .second, .val (.int k)] [(.long (127 : Int64)), (.long ((vals.toUInt64 >>> (((7 : Int32) * k) &&& 0x3f).toInt64.toUInt64).toInt64))])) t_
    refine XS.land X0.here hx rfl (hb hby dmethod_4_code_9) rfl ?_
    show Steps p_.tables e_ below (s₁.setTop (mkF m_ 10 #[.val (.long vals), .second, .val (.int k)] [(.long (((vals.toUInt64 >>> (((7 : Int32) * k) &&& 0x3f).toInt64.toUInt64).toInt64) &&& (127 : Int64)))])) t_
    refine X0.ldc2Long hx hown (mvT hZ (hw _ (List.mem_of_getElem? (i := 9) rfl))) (g := (mkF m_ 10 #[.val (.long vals), .second, .val (.int k)] [(.long (((vals.toUInt64 >>> (((7 : Int32) * k) &&& 0x3f).toInt64.toUInt64).toInt64) &&& (127 : Int64)))])) rfl (hb hby dmethod_4_code_10) _ ?_
    show Steps p_.tables e_ below (s₁.setTop (mkF m_ 13 #[.val (.long vals), .second, .val (.int k)] [(.long (100 : Int64)), (.long (((vals.toUInt64 >>> (((7 : Int32) * k) &&& 0x3f).toInt64.toUInt64).toInt64) &&& (127 : Int64)))])) t_
    refine own_lrem X0 hx rfl (hb hby dmethod_4_code_13) rfl (by decide) ?_
    show Steps p_.tables e_ below (s₁.setTop (mkF m_ 14 #[.val (.long vals), .second, .val (.int k)] [(.long ((((vals.toUInt64 >>> (((7 : Int32) * k) &&& 0x3f).toInt64.toUInt64).toInt64) &&& (127 : Int64)) % (100 : Int64)))])) t_
    refine XS.l2i X0.here hx rfl (hb hby dmethod_4_code_14) rfl ?_
    show Steps p_.tables e_ below (s₁.setTop (mkF m_ 15 #[.val (.long vals), .second, .val (.int k)] [(.int (((((vals.toUInt64 >>> (((7 : Int32) * k) &&& 0x3f).toInt64.toUInt64).toInt64) &&& (127 : Int64)) % (100 : Int64)).toInt32))])) t_
    refine XS.i2b X0.here hx rfl (hb hby dmethod_4_code_15) rfl ?_
    show Steps p_.tables e_ below (s₁.setTop (mkF m_ 16 #[.val (.long vals), .second, .val (.int k)] [(.int ((((((vals.toUInt64 >>> (((7 : Int32) * k) &&& 0x3f).toInt64.toUInt64).toInt64) &&& (127 : Int64)) % (100 : Int64)).toInt32).toInt8.toInt32))])) t_
    exact k_
  refine own_retN X0 hx hlk (t := .byte) hret (by simp) (hb hby dmethod_4_code_16) (by decide) (by decide) ?_
  rw [e0]
  rw [own_nb _]
  exact ⟨by simp only [f2], N0, rfl⟩
theorem dmethod_5_code_0 : decode method_5_code 0 = .ok (.lload_n 0, 1) := by decide +kernel
theorem dmethod_5_code_1 : decode method_5_code 1 = .ok (.iconst 3, 1) := by decide +kernel
theorem dmethod_5_code_2 : decode method_5_code 2 = .ok (.iload_n 2, 1) := by decide +kernel
theorem dmethod_5_code_3 : decode method_5_code 3 = .ok (.imul, 1) := by decide +kernel
theorem dmethod_5_code_4 : decode method_5_code 4 = .ok (.lushr, 1) := by decide +kernel
theorem dmethod_5_code_5 : decode method_5_code 5 = .ok (.ldc2_w 36, 3) := by decide +kernel
theorem dmethod_5_code_8 : decode method_5_code 8 = .ok (.land, 1) := by decide +kernel
theorem dmethod_5_code_9 : decode method_5_code 9 = .ok (.l2i, 1) := by decide +kernel
theorem dmethod_5_code_10 : decode method_5_code 10 = .ok (.ireturn, 1) := by decide +kernel
theorem ef_rm3 (m_ : MethodId) (cs : Int64) (k : Int32) : entryFrame m_ #[(.long cs), (.int k)] 3 = mkF m_ 0 #[.val (.long cs), .second, .val (.int k)] [] := by first | (simp [entryFrame, mkF, argsToLocals, Value.category]; done) | rfl
def f3 (cs : Int64) (k : Int32) : Int32 := ((((cs.toUInt64 >>> (((3 : Int32) * k) &&& 0x3f).toInt64.toUInt64).toInt64) &&& (7 : Int64)).toInt32)
set_option maxRecDepth 65536 in
set_option maxHeartbeats 40000000 in
theorem rm3 (l : Launch) (Z : State) (a0 : Array Value) (hw : ∀ d ∈ tables_1, d.before a0 Z = true) (cs : Int64) (k : Int32) (h0 : Heap) (n0 : Nat) (Z0 : n0 ≤ h0.size)  :
    own_Met l Z (⟨"com/example/banksum/banksum/iban/IbanRemainderPinLaw", "slot", "(JI)I"⟩ : MethodName) method_5_code 3 (some .int) ({ frames := 0, cells := 0, slots := 0, locals := 0 } : Room) #[(.long cs), (.int k)] h0 (fun v h L => v = some (.int (f3 cs k)) ∧ Fr n0 L ∧ h = h0) := by
  refine own_body #[.val (.long cs), .second, .val (.int k)] (plainFor_of_name own_pn0) (fun m_ => ef_rm3 m_ cs k) ?_
  intro p_ e_ s_ m_ below meth c_ s₁ X0 hx hby hml hret hlk hZ hown hnm e0
  have N0 := Fr.nil n0
  show own_Out p_ e_ below s_ _ _ _ s₁ (mkF m_ 0 #[.val (.long cs), .second, .val (.int k)] [])
  refine own_st s₁ (mkF m_ 10 #[.val (.long cs), .second, .val (.int k)] [(.int ((((cs.toUInt64 >>> (((3 : Int32) * k) &&& 0x3f).toInt64.toUInt64).toInt64) &&& (7 : Int64)).toInt32))]) (fun t_ k_ => ?_) ?_
  · refine XS.lloadN X0.here hx rfl (hb hby dmethod_5_code_0) rfl ?_
    show Steps p_.tables e_ below (s₁.setTop (mkF m_ 1 #[.val (.long cs), .second, .val (.int k)] [(.long cs)])) t_
    refine XS.iconst X0.here hx rfl (hb hby dmethod_5_code_1) ?_
    show Steps p_.tables e_ below (s₁.setTop (mkF m_ 2 #[.val (.long cs), .second, .val (.int k)] [(.int (3 : Int32)), (.long cs)])) t_
    refine XS.iloadN X0.here hx rfl (hb hby dmethod_5_code_2) rfl ?_
    show Steps p_.tables e_ below (s₁.setTop (mkF m_ 3 #[.val (.long cs), .second, .val (.int k)] [(.int k), (.int (3 : Int32)), (.long cs)])) t_
    refine XS.imul X0.here hx rfl (hb hby dmethod_5_code_3) rfl ?_
    show Steps p_.tables e_ below (s₁.setTop (mkF m_ 4 #[.val (.long cs), .second, .val (.int k)] [(.int ((3 : Int32) * k)), (.long cs)])) t_
    refine XS.lushr X0.here hx rfl (hb hby dmethod_5_code_4) rfl ?_
    show Steps p_.tables e_ below (s₁.setTop (mkF m_ 5 #[.val (.long cs), .second, .val (.int k)] [(.long ((cs.toUInt64 >>> (((3 : Int32) * k) &&& 0x3f).toInt64.toUInt64).toInt64))])) t_
    refine X0.ldc2Long hx hown (mvT hZ (hw _ (List.mem_of_getElem? (i := 14) rfl))) (g := (mkF m_ 5 #[.val (.long cs), .second, .val (.int k)] [(.long ((cs.toUInt64 >>> (((3 : Int32) * k) &&& 0x3f).toInt64.toUInt64).toInt64))])) rfl (hb hby dmethod_5_code_5) _ ?_
    show Steps p_.tables e_ below (s₁.setTop (mkF m_ 8 #[.val (.long cs), .second, .val (.int k)] [(.long (7 : Int64)), (.long ((cs.toUInt64 >>> (((3 : Int32) * k) &&& 0x3f).toInt64.toUInt64).toInt64))])) t_
    refine XS.land X0.here hx rfl (hb hby dmethod_5_code_8) rfl ?_
    show Steps p_.tables e_ below (s₁.setTop (mkF m_ 9 #[.val (.long cs), .second, .val (.int k)] [(.long (((cs.toUInt64 >>> (((3 : Int32) * k) &&& 0x3f).toInt64.toUInt64).toInt64) &&& (7 : Int64)))])) t_
    refine XS.l2i X0.here hx rfl (hb hby dmethod_5_code_9) rfl ?_
    show Steps p_.tables e_ below (s₁.setTop (mkF m_ 10 #[.val (.long cs), .second, .val (.int k)] [(.int ((((cs.toUInt64 >>> (((3 : Int32) * k) &&& 0x3f).toInt64.toUInt64).toInt64) &&& (7 : Int64)).toInt32))])) t_
    exact k_
  refine own_retI X0 hx hlk hret (hb hby dmethod_5_code_10) (by decide) (by decide) ?_
  rw [e0]
  exact ⟨by simp only [f3], N0, rfl⟩
theorem dmethod_7_code_0 : decode method_7_code 0 = .ok (.iload_n 1, 1) := by decide +kernel
theorem dmethod_7_code_1 : decode method_7_code 1 = .ok (.bipush 10, 2) := by decide +kernel
theorem dmethod_7_code_3 : decode method_7_code 3 = .ok (.if_icmp .ge 13, 3) := by decide +kernel
theorem dmethod_7_code_6 : decode method_7_code 6 = .ok (.iload_n 0, 1) := by decide +kernel
theorem dmethod_7_code_7 : decode method_7_code 7 = .ok (.bipush 10, 2) := by decide +kernel
theorem dmethod_7_code_9 : decode method_7_code 9 = .ok (.imul, 1) := by decide +kernel
theorem dmethod_7_code_10 : decode method_7_code 10 = .ok (.iload_n 1, 1) := by decide +kernel
theorem dmethod_7_code_11 : decode method_7_code 11 = .ok (.iadd, 1) := by decide +kernel
theorem dmethod_7_code_12 : decode method_7_code 12 = .ok (.bipush 97, 2) := by decide +kernel
theorem dmethod_7_code_14 : decode method_7_code 14 = .ok (.irem, 1) := by decide +kernel
theorem dmethod_7_code_15 : decode method_7_code 15 = .ok (.ireturn, 1) := by decide +kernel
theorem dmethod_7_code_16 : decode method_7_code 16 = .ok (.iload_n 0, 1) := by decide +kernel
theorem dmethod_7_code_17 : decode method_7_code 17 = .ok (.bipush 10, 2) := by decide +kernel
theorem dmethod_7_code_19 : decode method_7_code 19 = .ok (.imul, 1) := by decide +kernel
theorem dmethod_7_code_20 : decode method_7_code 20 = .ok (.iload_n 1, 1) := by decide +kernel
theorem dmethod_7_code_21 : decode method_7_code 21 = .ok (.bipush 10, 2) := by decide +kernel
theorem dmethod_7_code_23 : decode method_7_code 23 = .ok (.idiv, 1) := by decide +kernel
theorem dmethod_7_code_24 : decode method_7_code 24 = .ok (.iadd, 1) := by decide +kernel
theorem dmethod_7_code_25 : decode method_7_code 25 = .ok (.bipush 97, 2) := by decide +kernel
theorem dmethod_7_code_27 : decode method_7_code 27 = .ok (.irem, 1) := by decide +kernel
theorem dmethod_7_code_28 : decode method_7_code 28 = .ok (.istore_n 2, 1) := by decide +kernel
theorem dmethod_7_code_29 : decode method_7_code 29 = .ok (.iload_n 2, 1) := by decide +kernel
theorem dmethod_7_code_30 : decode method_7_code 30 = .ok (.bipush 10, 2) := by decide +kernel
theorem dmethod_7_code_32 : decode method_7_code 32 = .ok (.imul, 1) := by decide +kernel
theorem dmethod_7_code_33 : decode method_7_code 33 = .ok (.iload_n 1, 1) := by decide +kernel
theorem dmethod_7_code_34 : decode method_7_code 34 = .ok (.bipush 10, 2) := by decide +kernel
theorem dmethod_7_code_36 : decode method_7_code 36 = .ok (.irem, 1) := by decide +kernel
theorem dmethod_7_code_37 : decode method_7_code 37 = .ok (.iadd, 1) := by decide +kernel
theorem dmethod_7_code_38 : decode method_7_code 38 = .ok (.bipush 97, 2) := by decide +kernel
theorem dmethod_7_code_40 : decode method_7_code 40 = .ok (.irem, 1) := by decide +kernel
theorem dmethod_7_code_41 : decode method_7_code 41 = .ok (.ireturn, 1) := by decide +kernel
theorem ef_rm6 (m_ : MethodId) (r : Int32) (vv : Int32) : entryFrame m_ #[(.int r), (.int vv)] 3 = mkF m_ 0 #[.val (.int r), .val (.int vv), .unset] [] := by first | (simp [entryFrame, mkF, argsToLocals, Value.category]; done) | rfl
def f6 (r : Int32) (vv : Int32) : Int32 := (if vv < (10 : Int32) then (((r * (10 : Int32)) + vv) % (97 : Int32)) else ((((((r * (10 : Int32)) + (vv / (10 : Int32))) % (97 : Int32)) * (10 : Int32)) + (vv % (10 : Int32))) % (97 : Int32)))
set_option maxRecDepth 65536 in
set_option maxHeartbeats 40000000 in
theorem rm6 (l : Launch) (Z : State) (a0 : Array Value) (hw : ∀ d ∈ tables_1, d.before a0 Z = true) (r : Int32) (vv : Int32) (h0 : Heap) (n0 : Nat) (Z0 : n0 ≤ h0.size)  :
    own_Met l Z (⟨"com/example/banksum/banksum/iban/IbanRemainderPinLaw", "step", "(II)I"⟩ : MethodName) method_7_code 3 (some .int) ({ frames := 0, cells := 0, slots := 0, locals := 0 } : Room) #[(.int r), (.int vv)] h0 (fun v h L => v = some (.int (f6 r vv)) ∧ Fr n0 L ∧ h = h0) := by
  refine own_body #[.val (.int r), .val (.int vv), .unset] (plainFor_of_name own_pn0) (fun m_ => ef_rm6 m_ r vv) ?_
  intro p_ e_ s_ m_ below meth c_ s₁ X0 hx hby hml hret hlk hZ hown hnm e0
  have N0 := Fr.nil n0
  show own_Out p_ e_ below s_ _ _ _ s₁ (mkF m_ 0 #[.val (.int r), .val (.int vv), .unset] [])
  refine own_st s₁ (mkF m_ 3 #[.val (.int r), .val (.int vv), .unset] [(.int (10 : Int32)), (.int vv)]) (fun t_ k_ => ?_) ?_
  · refine XS.iloadN X0.here hx rfl (hb hby dmethod_7_code_0) rfl ?_
    show Steps p_.tables e_ below (s₁.setTop (mkF m_ 1 #[.val (.int r), .val (.int vv), .unset] [(.int vv)])) t_
    refine XS.bipush X0.here hx rfl (hb hby dmethod_7_code_1) ?_
    show Steps p_.tables e_ below (s₁.setTop (mkF m_ 3 #[.val (.int r), .val (.int vv), .unset] [(.int (10 : Int32)), (.int vv)])) t_
    exact k_
  by_cases hc3 : vv < (10 : Int32)
  · refine own_st s₁ (mkF m_ 6 #[.val (.int r), .val (.int vv), .unset] []) (fun t_ k_ => XS.icmpNo X0.here hx rfl (hb hby dmethod_7_code_3) rfl (tlt hc3).2.1 k_) ?_
    refine own_st s₁ (mkF m_ 15 #[.val (.int r), .val (.int vv), .unset] [(.int (((r * (10 : Int32)) + vv) % (97 : Int32)))]) (fun t_ k_ => ?_) ?_
    · refine XS.iloadN X0.here hx rfl (hb hby dmethod_7_code_6) rfl ?_
      show Steps p_.tables e_ below (s₁.setTop (mkF m_ 7 #[.val (.int r), .val (.int vv), .unset] [(.int r)])) t_
      refine XS.bipush X0.here hx rfl (hb hby dmethod_7_code_7) ?_
      show Steps p_.tables e_ below (s₁.setTop (mkF m_ 9 #[.val (.int r), .val (.int vv), .unset] [(.int (10 : Int32)), (.int r)])) t_
      refine XS.imul X0.here hx rfl (hb hby dmethod_7_code_9) rfl ?_
      show Steps p_.tables e_ below (s₁.setTop (mkF m_ 10 #[.val (.int r), .val (.int vv), .unset] [(.int (r * (10 : Int32)))])) t_
      refine XS.iloadN X0.here hx rfl (hb hby dmethod_7_code_10) rfl ?_
      show Steps p_.tables e_ below (s₁.setTop (mkF m_ 11 #[.val (.int r), .val (.int vv), .unset] [(.int vv), (.int (r * (10 : Int32)))])) t_
      refine XS.iadd X0.here hx rfl (hb hby dmethod_7_code_11) rfl ?_
      show Steps p_.tables e_ below (s₁.setTop (mkF m_ 12 #[.val (.int r), .val (.int vv), .unset] [(.int ((r * (10 : Int32)) + vv))])) t_
      refine XS.bipush X0.here hx rfl (hb hby dmethod_7_code_12) ?_
      show Steps p_.tables e_ below (s₁.setTop (mkF m_ 14 #[.val (.int r), .val (.int vv), .unset] [(.int (97 : Int32)), (.int ((r * (10 : Int32)) + vv))])) t_
      refine iremM X0 hx rfl (hb hby dmethod_7_code_14) rfl (by decide) ?_
      show Steps p_.tables e_ below (s₁.setTop (mkF m_ 15 #[.val (.int r), .val (.int vv), .unset] [(.int (((r * (10 : Int32)) + vv) % (97 : Int32)))])) t_
      exact k_
    refine own_retI X0 hx hlk hret (hb hby dmethod_7_code_15) (by decide) (by decide) ?_
    rw [e0]
    exact ⟨by simp only [f6, if_pos hc3], N0, rfl⟩
  · refine own_st s₁ (mkF m_ 16 #[.val (.int r), .val (.int vv), .unset] []) (fun t_ k_ => XS.icmpYes X0.here hx rfl (pc0 := 3) (pc' := 16) rfl (hb hby dmethod_7_code_3) rfl (flt hc3).2.1 (by decide) (by decide) k_) ?_
    refine own_st s₁ (mkF m_ 41 #[.val (.int r), .val (.int vv), .val (.int (((r * (10 : Int32)) + (vv / (10 : Int32))) % (97 : Int32)))] [(.int ((((((r * (10 : Int32)) + (vv / (10 : Int32))) % (97 : Int32)) * (10 : Int32)) + (vv % (10 : Int32))) % (97 : Int32)))]) (fun t_ k_ => ?_) ?_
    · refine XS.iloadN X0.here hx rfl (hb hby dmethod_7_code_16) rfl ?_
      show Steps p_.tables e_ below (s₁.setTop (mkF m_ 17 #[.val (.int r), .val (.int vv), .unset] [(.int r)])) t_
      refine XS.bipush X0.here hx rfl (hb hby dmethod_7_code_17) ?_
      show Steps p_.tables e_ below (s₁.setTop (mkF m_ 19 #[.val (.int r), .val (.int vv), .unset] [(.int (10 : Int32)), (.int r)])) t_
      refine XS.imul X0.here hx rfl (hb hby dmethod_7_code_19) rfl ?_
      show Steps p_.tables e_ below (s₁.setTop (mkF m_ 20 #[.val (.int r), .val (.int vv), .unset] [(.int (r * (10 : Int32)))])) t_
      refine XS.iloadN X0.here hx rfl (hb hby dmethod_7_code_20) rfl ?_
      show Steps p_.tables e_ below (s₁.setTop (mkF m_ 21 #[.val (.int r), .val (.int vv), .unset] [(.int vv), (.int (r * (10 : Int32)))])) t_
      refine XS.bipush X0.here hx rfl (hb hby dmethod_7_code_21) ?_
      show Steps p_.tables e_ below (s₁.setTop (mkF m_ 23 #[.val (.int r), .val (.int vv), .unset] [(.int (10 : Int32)), (.int vv), (.int (r * (10 : Int32)))])) t_
      refine XS.idiv X0.here hx rfl (hb hby dmethod_7_code_23) rfl (by decide) ?_
      show Steps p_.tables e_ below (s₁.setTop (mkF m_ 24 #[.val (.int r), .val (.int vv), .unset] [(.int (vv / (10 : Int32))), (.int (r * (10 : Int32)))])) t_
      refine XS.iadd X0.here hx rfl (hb hby dmethod_7_code_24) rfl ?_
      show Steps p_.tables e_ below (s₁.setTop (mkF m_ 25 #[.val (.int r), .val (.int vv), .unset] [(.int ((r * (10 : Int32)) + (vv / (10 : Int32))))])) t_
      refine XS.bipush X0.here hx rfl (hb hby dmethod_7_code_25) ?_
      show Steps p_.tables e_ below (s₁.setTop (mkF m_ 27 #[.val (.int r), .val (.int vv), .unset] [(.int (97 : Int32)), (.int ((r * (10 : Int32)) + (vv / (10 : Int32))))])) t_
      refine iremM X0 hx rfl (hb hby dmethod_7_code_27) rfl (by decide) ?_
      show Steps p_.tables e_ below (s₁.setTop (mkF m_ 28 #[.val (.int r), .val (.int vv), .unset] [(.int (((r * (10 : Int32)) + (vv / (10 : Int32))) % (97 : Int32)))])) t_
      refine XS.istoreN X0.here hx rfl (hb hby dmethod_7_code_28) rfl (l' := #[.val (.int r), .val (.int vv), .val (.int (((r * (10 : Int32)) + (vv / (10 : Int32))) % (97 : Int32)))]) rfl ?_
      show Steps p_.tables e_ below (s₁.setTop (mkF m_ 29 #[.val (.int r), .val (.int vv), .val (.int (((r * (10 : Int32)) + (vv / (10 : Int32))) % (97 : Int32)))] [])) t_
      refine XS.iloadN X0.here hx rfl (hb hby dmethod_7_code_29) rfl ?_
      show Steps p_.tables e_ below (s₁.setTop (mkF m_ 30 #[.val (.int r), .val (.int vv), .val (.int (((r * (10 : Int32)) + (vv / (10 : Int32))) % (97 : Int32)))] [(.int (((r * (10 : Int32)) + (vv / (10 : Int32))) % (97 : Int32)))])) t_
      refine XS.bipush X0.here hx rfl (hb hby dmethod_7_code_30) ?_
      show Steps p_.tables e_ below (s₁.setTop (mkF m_ 32 #[.val (.int r), .val (.int vv), .val (.int (((r * (10 : Int32)) + (vv / (10 : Int32))) % (97 : Int32)))] [(.int (10 : Int32)), (.int (((r * (10 : Int32)) + (vv / (10 : Int32))) % (97 : Int32)))])) t_
      refine XS.imul X0.here hx rfl (hb hby dmethod_7_code_32) rfl ?_
      show Steps p_.tables e_ below (s₁.setTop (mkF m_ 33 #[.val (.int r), .val (.int vv), .val (.int (((r * (10 : Int32)) + (vv / (10 : Int32))) % (97 : Int32)))] [(.int ((((r * (10 : Int32)) + (vv / (10 : Int32))) % (97 : Int32)) * (10 : Int32)))])) t_
      refine XS.iloadN X0.here hx rfl (hb hby dmethod_7_code_33) rfl ?_
      show Steps p_.tables e_ below (s₁.setTop (mkF m_ 34 #[.val (.int r), .val (.int vv), .val (.int (((r * (10 : Int32)) + (vv / (10 : Int32))) % (97 : Int32)))] [(.int vv), (.int ((((r * (10 : Int32)) + (vv / (10 : Int32))) % (97 : Int32)) * (10 : Int32)))])) t_
      refine XS.bipush X0.here hx rfl (hb hby dmethod_7_code_34) ?_
      show Steps p_.tables e_ below (s₁.setTop (mkF m_ 36 #[.val (.int r), .val (.int vv), .val (.int (((r * (10 : Int32)) + (vv / (10 : Int32))) % (97 : Int32)))] [(.int (10 : Int32)), (.int vv), (.int ((((r * (10 : Int32)) + (vv / (10 : Int32))) % (97 : Int32)) * (10 : Int32)))])) t_
      refine iremM X0 hx rfl (hb hby dmethod_7_code_36) rfl (by decide) ?_
      show Steps p_.tables e_ below (s₁.setTop (mkF m_ 37 #[.val (.int r), .val (.int vv), .val (.int (((r * (10 : Int32)) + (vv / (10 : Int32))) % (97 : Int32)))] [(.int (vv % (10 : Int32))), (.int ((((r * (10 : Int32)) + (vv / (10 : Int32))) % (97 : Int32)) * (10 : Int32)))])) t_
      refine XS.iadd X0.here hx rfl (hb hby dmethod_7_code_37) rfl ?_
      show Steps p_.tables e_ below (s₁.setTop (mkF m_ 38 #[.val (.int r), .val (.int vv), .val (.int (((r * (10 : Int32)) + (vv / (10 : Int32))) % (97 : Int32)))] [(.int (((((r * (10 : Int32)) + (vv / (10 : Int32))) % (97 : Int32)) * (10 : Int32)) + (vv % (10 : Int32))))])) t_
      refine XS.bipush X0.here hx rfl (hb hby dmethod_7_code_38) ?_
      show Steps p_.tables e_ below (s₁.setTop (mkF m_ 40 #[.val (.int r), .val (.int vv), .val (.int (((r * (10 : Int32)) + (vv / (10 : Int32))) % (97 : Int32)))] [(.int (97 : Int32)), (.int (((((r * (10 : Int32)) + (vv / (10 : Int32))) % (97 : Int32)) * (10 : Int32)) + (vv % (10 : Int32))))])) t_
      refine iremM X0 hx rfl (hb hby dmethod_7_code_40) rfl (by decide) ?_
      show Steps p_.tables e_ below (s₁.setTop (mkF m_ 41 #[.val (.int r), .val (.int vv), .val (.int (((r * (10 : Int32)) + (vv / (10 : Int32))) % (97 : Int32)))] [(.int ((((((r * (10 : Int32)) + (vv / (10 : Int32))) % (97 : Int32)) * (10 : Int32)) + (vv % (10 : Int32))) % (97 : Int32)))])) t_
      exact k_
    refine own_retI X0 hx hlk hret (hb hby dmethod_7_code_41) (by decide) (by decide) ?_
    rw [e0]
    exact ⟨by simp only [f6, if_neg hc3], N0, rfl⟩
def own_u (vf c : Nat → Int32) (i : Nat) : Int32 := vf (c i).toNatClampNeg
def own_fold (u : Nat → Int32) (r : Int32) (i : Nat) : Nat → Int32
  | 0 => r
  | k + 1 => own_fold u (f6 r (u i)) (i + 1) k
theorem own_nn {x : Int32} (h : 0 ≤ x.toInt) : ¬ x < 0 := by
  rw [Int32.lt_iff_toInt_lt]; have : (0 : Int32).toInt = 0 := rfl; omega
theorem own_lt128 {x : Int32} (h : 0 ≤ x.toInt ∧ x.toInt < 128) : x.toNatClampNeg < 128 := by simp only [Int32.toNatClampNeg]; omega
theorem own_ncf (s : Int32) : nar .char (f1 s) = f1 s := by unfold f1; split <;> exact own_nc _
theorem own_inc {i : Int32} {n : Nat} (h : i.toInt = (n : Int)) (hn : n < 1000) : (i + (1 : Int32)).toInt = ((n + 1 : Nat) : Int) := by
  have := c_iadd i 1; have := rng32 (i + 1); have : (1 : Int32).toInt = 1 := rfl; omega
theorem own_ge {i to : Int32} {ni nt : Nat} (hi : i.toInt = (ni : Int)) (ht : to.toInt = (nt : Int)) (h : ni + 0 = nt) : ¬ i < to := by
  rw [Int32.lt_iff_toInt_lt]; omega
theorem own_lt {i to : Int32} {ni nt kk : Nat} (hi : i.toInt = (ni : Int)) (ht : to.toInt = (nt : Int)) (h : ni + (kk + 1) = nt) : i < to := by
  rw [Int32.lt_iff_toInt_lt]; omega
theorem own_f6r (r v : Int32) (hr : 0 ≤ r.toInt ∧ r.toInt < 97) (hv : 0 ≤ v.toInt ∧ v.toInt < 100) : 0 ≤ (f6 r v).toInt ∧ (f6 r v).toInt < 97 ∧ (f6 r v).toInt = (if v.toInt < 10 then r.toInt * 10 + v.toInt else r.toInt * 100 + v.toInt) % 97 := by
  have l10 : (10 : Int32).toInt = 10 := rfl
  have l97 : (97 : Int32).toInt = 97 := rfl
  unfold f6
  by_cases q : v < 10
  · rw [if_pos q]
    rw [Int32.lt_iff_toInt_lt, l10] at q
    have a1 := c_imul r 10; rw [l10] at a1
    have a2 := rng32 (r * 10)
    have a3 := c_iadd (r * 10) v
    have a4 := rng32 (r * 10 + v)
    have a2' : (r * 10).toInt = r.toInt * 10 := by clear a3 a4; omega
    have a4' : (r * 10 + v).toInt = r.toInt * 10 + v.toInt := by clear a1 a2; omega
    clear a1 a2 a3 a4
    have a5 := (c_irem (r * 10 + v) 97 97 l97).1 (by omega)
    rw [if_pos q]
    omega
  · rw [if_neg q]
    rw [Int32.lt_iff_toInt_lt, l10] at q
    rw [if_neg q]
    have a1 := c_imul r 10; rw [l10] at a1
    have a2 := rng32 (r * 10)
    have b1 := (c_idiv v 10 10 l10 (by decide)).1 hv.1
    have a3 := c_iadd (r * 10) (v / 10)
    have a4 := rng32 (r * 10 + v / 10)
    have a2' : (r * 10).toInt = r.toInt * 10 := by clear a3 a4 b1; omega
    have a4' : (r * 10 + v / 10).toInt = r.toInt * 10 + (v / 10).toInt := by clear a1 a2; omega
    clear a1 a2 a3 a4
    have a5 := (c_irem (r * 10 + v / 10) 97 97 l97).1 (by omega)
    have b2 := (c_irem v 10 10 l10).1 hv.1
    have a6 := c_imul ((r * 10 + v / 10) % 97) 10; rw [l10] at a6
    have a7 := rng32 ((r * 10 + v / 10) % 97 * 10)
    have a8 := c_iadd ((r * 10 + v / 10) % 97 * 10) (v % 10)
    have a9 := rng32 ((r * 10 + v / 10) % 97 * 10 + v % 10)
    have a7' : ((r * 10 + v / 10) % 97 * 10).toInt = ((r * 10 + v / 10) % 97).toInt * 10 := by clear a8 a9 b1 b2 a2' a4'; omega
    have a9' : ((r * 10 + v / 10) % 97 * 10 + v % 10).toInt = ((r * 10 + v / 10) % 97).toInt * 10 + (v % 10).toInt := by clear a6 a7 a2' a4' b1; omega
    clear a6 a7 a8 a9
    have a10 := (c_irem ((r * 10 + v / 10) % 97 * 10 + v % 10) 97 97 l97).1 (by omega)
    omega

def f5 (r i fr to v : Int32) : Int32 := if i < fr then r else if i < to then f6 r v else r
theorem dmethod_6_code_0 : decode method_6_code 0 = .ok (.iload_n 3, 1) := by decide +kernel
theorem dmethod_6_code_1 : decode method_6_code 1 = .ok (.iload 4, 2) := by decide +kernel
theorem dmethod_6_code_3 : decode method_6_code 3 = .ok (.if_icmp .lt 21, 3) := by decide +kernel
theorem dmethod_6_code_24 : decode method_6_code 24 = .ok (.iload_n 0, 1) := by decide +kernel
theorem dmethod_6_code_25 : decode method_6_code 25 = .ok (.ireturn, 1) := by decide +kernel
theorem dmethod_6_code_6 : decode method_6_code 6 = .ok (.iload_n 3, 1) := by decide +kernel
theorem dmethod_6_code_7 : decode method_6_code 7 = .ok (.iload 5, 2) := by decide +kernel
theorem dmethod_6_code_9 : decode method_6_code 9 = .ok (.if_icmp .ge 15, 3) := by decide +kernel
theorem dmethod_6_code_12 : decode method_6_code 12 = .ok (.iload_n 0, 1) := by decide +kernel
theorem dmethod_6_code_13 : decode method_6_code 13 = .ok (.aload_n 1, 1) := by decide +kernel
theorem dmethod_6_code_14 : decode method_6_code 14 = .ok (.aload_n 2, 1) := by decide +kernel
theorem dmethod_6_code_15 : decode method_6_code 15 = .ok (.iload_n 3, 1) := by decide +kernel
theorem dmethod_6_code_16 : decode method_6_code 16 = .ok (.caload, 1) := by decide +kernel
theorem dmethod_6_code_17 : decode method_6_code 17 = .ok (.baload, 1) := by decide +kernel
theorem own_pd0 : parseMethodDescriptor "(II)I" = some ⟨[.int, .int], some .int⟩ := by decide +kernel
theorem dmethod_6_code_18 : decode method_6_code 18 = .ok (.invokestatic 38, 3) := by decide +kernel
theorem dmethod_6_code_21 : decode method_6_code 21 = .ok (.goto 4, 3) := by decide +kernel
theorem ef_rm5 (m_ : MethodId) (r : Int32) (va : Addr) (ca : Addr) (i : Int32) (fr : Int32) (to : Int32) : entryFrame m_ #[(.int r), (.ref va), (.ref ca), (.int i), (.int fr), (.int to)] 6 = mkF m_ 0 #[.val (.int r), .val (.ref va), .val (.ref ca), .val (.int i), .val (.int fr), .val (.int to)] [] := by first | (simp [entryFrame, mkF, argsToLocals, Value.category]; done) | rfl
set_option maxRecDepth 65536 in
set_option maxHeartbeats 40000000 in
theorem rm5 (l : Launch) (Z : State) (a0 : Array Value) (hw : ∀ d ∈ tables_1, d.before a0 Z = true) (r : Int32) (va : Addr) (ca : Addr) (i : Int32) (fr : Int32) (to : Int32) (k1 k2 : ClassId) (vf c : Nat → Int32) (ni : Nat) (h0 : Heap) (n0 : Nat) (Z0 : n0 ≤ h0.size) (V : own_A Z h0 va k1 .byte 128 (fun x => .int (vf x))) (W : own_A Z h0 ca k2 .char 18 (fun x => .int (c x))) (hc : ∀ i, i < 18 → 0 ≤ (c i).toInt ∧ (c i).toInt < 128) (hi : i.toInt = (ni : Int)) (hn : ni < 18) :
    own_Met l Z (⟨"com/example/banksum/banksum/iban/IbanRemainderPinLaw", "at", "(I[B[CIII)I"⟩ : MethodName) method_6_code 6 (some .int) ({ frames := 1, cells := 0, slots := 0, locals := 14 } : Room) #[(.int r), (.ref va), (.ref ca), (.int i), (.int fr), (.int to)] h0 (fun v h L => v = some (.int (f5 r i fr to (own_u vf c ni))) ∧ Fr n0 L ∧ h = h0) := by
  refine own_body #[.val (.int r), .val (.ref va), .val (.ref ca), .val (.int i), .val (.int fr), .val (.int to)] (plainFor_of_name own_pn0) (fun m_ => ef_rm5 m_ r va ca i fr to) ?_
  intro p_ e_ s_ m_ below meth c_ s₁ X0 hx hby hml hret hlk hZ hown hnm e0
  have N0 := Fr.nil n0
  show own_Out p_ e_ below s_ _ _ _ s₁ (mkF m_ 0 #[.val (.int r), .val (.ref va), .val (.ref ca), .val (.int i), .val (.int fr), .val (.int to)] [])
  refine own_st s₁ (mkF m_ 3 #[.val (.int r), .val (.ref va), .val (.ref ca), .val (.int i), .val (.int fr), .val (.int to)] [(.int fr), (.int i)]) (fun t_ k_ => ?_) ?_
  · refine XS.iloadN X0.here hx rfl (hb hby dmethod_6_code_0) rfl ?_
    show Steps p_.tables e_ below (s₁.setTop (mkF m_ 1 #[.val (.int r), .val (.ref va), .val (.ref ca), .val (.int i), .val (.int fr), .val (.int to)] [(.int i)])) t_
    refine XS.iload X0.here hx rfl (hb hby dmethod_6_code_1) rfl ?_
    show Steps p_.tables e_ below (s₁.setTop (mkF m_ 3 #[.val (.int r), .val (.ref va), .val (.ref ca), .val (.int i), .val (.int fr), .val (.int to)] [(.int fr), (.int i)])) t_
    exact k_
  by_cases hc3 : i < fr
  · refine own_st s₁ (mkF m_ 24 #[.val (.int r), .val (.ref va), .val (.ref ca), .val (.int i), .val (.int fr), .val (.int to)] []) (fun t_ k_ => XS.icmpYes X0.here hx rfl (pc0 := 3) (pc' := 24) rfl (hb hby dmethod_6_code_3) rfl (tlt hc3).1 (by decide) (by decide) k_) ?_
    refine own_st s₁ (mkF m_ 25 #[.val (.int r), .val (.ref va), .val (.ref ca), .val (.int i), .val (.int fr), .val (.int to)] [(.int r)]) (fun t_ k_ => ?_) ?_
    · refine XS.iloadN X0.here hx rfl (hb hby dmethod_6_code_24) rfl ?_
      show Steps p_.tables e_ below (s₁.setTop (mkF m_ 25 #[.val (.int r), .val (.ref va), .val (.ref ca), .val (.int i), .val (.int fr), .val (.int to)] [(.int r)])) t_
      exact k_
    refine own_retI X0 hx hlk hret (hb hby dmethod_6_code_25) (by decide) (by decide) ?_
    rw [e0]
    exact ⟨by simp only [f5, if_pos hc3], N0, rfl⟩
  · refine own_st s₁ (mkF m_ 6 #[.val (.int r), .val (.ref va), .val (.ref ca), .val (.int i), .val (.int fr), .val (.int to)] []) (fun t_ k_ => XS.icmpNo X0.here hx rfl (hb hby dmethod_6_code_3) rfl (flt hc3).1 k_) ?_
    refine own_st s₁ (mkF m_ 9 #[.val (.int r), .val (.ref va), .val (.ref ca), .val (.int i), .val (.int fr), .val (.int to)] [(.int to), (.int i)]) (fun t_ k_ => ?_) ?_
    · refine XS.iloadN X0.here hx rfl (hb hby dmethod_6_code_6) rfl ?_
      show Steps p_.tables e_ below (s₁.setTop (mkF m_ 7 #[.val (.int r), .val (.ref va), .val (.ref ca), .val (.int i), .val (.int fr), .val (.int to)] [(.int i)])) t_
      refine XS.iload X0.here hx rfl (hb hby dmethod_6_code_7) rfl ?_
      show Steps p_.tables e_ below (s₁.setTop (mkF m_ 9 #[.val (.int r), .val (.ref va), .val (.ref ca), .val (.int i), .val (.int fr), .val (.int to)] [(.int to), (.int i)])) t_
      exact k_
    by_cases hc9 : i < to
    · refine own_st s₁ (mkF m_ 12 #[.val (.int r), .val (.ref va), .val (.ref ca), .val (.int i), .val (.int fr), .val (.int to)] []) (fun t_ k_ => XS.icmpNo X0.here hx rfl (hb hby dmethod_6_code_9) rfl (tlt hc9).2.1 k_) ?_
      refine own_st s₁ (mkF m_ 18 #[.val (.int r), .val (.ref va), .val (.ref ca), .val (.int i), .val (.int fr), .val (.int to)] [(.int (own_u vf c ni)), (.int r)]) (fun t_ k_ => ?_) ?_
      · refine XS.iloadN X0.here hx rfl (hb hby dmethod_6_code_12) rfl ?_
        show Steps p_.tables e_ below (s₁.setTop (mkF m_ 13 #[.val (.int r), .val (.ref va), .val (.ref ca), .val (.int i), .val (.int fr), .val (.int to)] [(.int r)])) t_
        refine XS.aloadN X0.here hx rfl (hb hby dmethod_6_code_13) rfl rfl ?_
        show Steps p_.tables e_ below (s₁.setTop (mkF m_ 14 #[.val (.int r), .val (.ref va), .val (.ref ca), .val (.int i), .val (.int fr), .val (.int to)] [(.ref va), (.int r)])) t_
        refine XS.aloadN X0.here hx rfl (hb hby dmethod_6_code_14) rfl rfl ?_
        show Steps p_.tables e_ below (s₁.setTop (mkF m_ 15 #[.val (.int r), .val (.ref va), .val (.ref ca), .val (.int i), .val (.int fr), .val (.int to)] [(.ref ca), (.ref va), (.int r)])) t_
        refine XS.iloadN X0.here hx rfl (hb hby dmethod_6_code_15) rfl ?_
        show Steps p_.tables e_ below (s₁.setTop (mkF m_ 16 #[.val (.int r), .val (.ref va), .val (.ref ca), .val (.int i), .val (.int fr), .val (.int to)] [(.int i), (.ref ca), (.ref va), (.int r)])) t_
        refine own_ldC X0 hx hZ e0 W ni hi hn (hb hby dmethod_6_code_16) _ ?_
        show Steps p_.tables e_ below (s₁.setTop (mkF m_ 17 #[.val (.int r), .val (.ref va), .val (.ref ca), .val (.int i), .val (.int fr), .val (.int to)] [(.int (c ni)), (.ref va), (.int r)])) t_
        refine own_ldB X0 hx hZ e0 V (c ni).toNatClampNeg (nat_of (own_nn (hc ni (by omega)).1)) (own_lt128 (hc ni (by omega))) (hb hby dmethod_6_code_17) _ ?_
        show Steps p_.tables e_ below (s₁.setTop (mkF m_ 18 #[.val (.int r), .val (.ref va), .val (.ref ca), .val (.int i), .val (.int fr), .val (.int to)] [(.int (own_u vf c ni)), (.int r)])) t_
        exact k_
      refine own_callS X0 hx hZ hown (hw _ (List.mem_of_getElem? (i := 24) rfl)) (hw _ (List.mem_of_getElem? (i := 25) rfl)) (hw _ (List.mem_of_getElem? (i := 3) rfl)) (hw _ (List.mem_of_getElem? (i := 26) rfl)) (by decide) [(.int r), (.int (own_u vf c ni))] [] (rm6 l Z a0 hw r (own_u vf c ni) h0 n0 Z0) 0 (by decide) (by decide) e0 (by rw [hml]; rfl) (lenOf own_pd0 rfl) rfl (Nat.le_of_eq rfl) (hb hby dmethod_6_code_18) (by decide) (by decide) ?_
      intro v1 T1 L1 X1 q1
      obtain ⟨rfl, N1q, e1⟩ := q1
      have N1 := Fr.app N0 N1q
      show own_Out p_ e_ below s_ _ _ _ T1 (mkF m_ 21 #[.val (.int r), .val (.ref va), .val (.ref ca), .val (.int i), .val (.int fr), .val (.int to)] [(.int (f6 r (own_u vf c ni)))])
      refine own_st T1 (mkF m_ 25 #[.val (.int r), .val (.ref va), .val (.ref ca), .val (.int i), .val (.int fr), .val (.int to)] [(.int (f6 r (own_u vf c ni)))]) (fun t_ k_ => ?_) ?_
      · refine XS.goto X1.here hx rfl (pc0 := 21) (pc' := 25) rfl (hb hby dmethod_6_code_21) (by decide) (by decide) ?_
        show Steps p_.tables e_ below (T1.setTop (mkF m_ 25 #[.val (.int r), .val (.ref va), .val (.ref ca), .val (.int i), .val (.int fr), .val (.int to)] [(.int (f6 r (own_u vf c ni)))])) t_
        exact k_
      refine own_retI X1 hx hlk hret (hb hby dmethod_6_code_25) (by decide) (by decide) ?_
      rw [e1]
      exact ⟨by simp only [f5, if_neg hc3, if_pos hc9], N1, rfl⟩
    · refine own_st s₁ (mkF m_ 24 #[.val (.int r), .val (.ref va), .val (.ref ca), .val (.int i), .val (.int fr), .val (.int to)] []) (fun t_ k_ => XS.icmpYes X0.here hx rfl (pc0 := 9) (pc' := 24) rfl (hb hby dmethod_6_code_9) rfl (flt hc9).2.1 (by decide) (by decide) k_) ?_
      refine own_st s₁ (mkF m_ 25 #[.val (.int r), .val (.ref va), .val (.ref ca), .val (.int i), .val (.int fr), .val (.int to)] [(.int r)]) (fun t_ k_ => ?_) ?_
      · refine XS.iloadN X0.here hx rfl (hb hby dmethod_6_code_24) rfl ?_
        show Steps p_.tables e_ below (s₁.setTop (mkF m_ 25 #[.val (.int r), .val (.ref va), .val (.ref ca), .val (.int i), .val (.int fr), .val (.int to)] [(.int r)])) t_
        exact k_
      refine own_retI X0 hx hlk hret (hb hby dmethod_6_code_25) (by decide) (by decide) ?_
      rw [e0]
      exact ⟨by simp only [f5, if_neg hc3, if_neg hc9], N0, rfl⟩
theorem dprog_44_method_10_code_0 : decode prog_44_method_10_code 0 = .ok (.iload_n 1, 1) := by decide +kernel
theorem dprog_44_method_10_code_1 : decode prog_44_method_10_code 1 = .ok (.i2l, 1) := by decide +kernel
theorem dprog_44_method_10_code_2 : decode prog_44_method_10_code 2 = .ok (.lstore 5, 2) := by decide +kernel
theorem dprog_44_method_10_code_4 : decode prog_44_method_10_code 4 = .ok (.iload_n 3, 1) := by decide +kernel
theorem dprog_44_method_10_code_5 : decode prog_44_method_10_code 5 = .ok (.istore 7, 2) := by decide +kernel
theorem dprog_44_method_10_code_7 : decode prog_44_method_10_code 7 = .ok (.iload 7, 2) := by decide +kernel
theorem dprog_44_method_10_code_9 : decode prog_44_method_10_code 9 = .ok (.iload 4, 2) := by decide +kernel
theorem dprog_44_method_10_code_11 : decode prog_44_method_10_code 11 = .ok (.if_icmp .ge 61, 3) := by decide +kernel
theorem dprog_44_method_10_code_72 : decode prog_44_method_10_code 72 = .ok (.lload 5, 2) := by decide +kernel
theorem dprog_44_method_10_code_74 : decode prog_44_method_10_code 74 = .ok (.ldc2_w 183, 3) := by decide +kernel
theorem dprog_44_method_10_code_77 : decode prog_44_method_10_code 77 = .ok (.lrem, 1) := by decide +kernel
theorem dprog_44_method_10_code_78 : decode prog_44_method_10_code 78 = .ok (.l2i, 1) := by decide +kernel
theorem dprog_44_method_10_code_79 : decode prog_44_method_10_code 79 = .ok (.ireturn, 1) := by decide +kernel
theorem dprog_44_method_10_code_14 : decode prog_44_method_10_code 14 = .ok (.aload_n 0, 1) := by decide +kernel
theorem dprog_44_method_10_code_15 : decode prog_44_method_10_code 15 = .ok (.aload_n 2, 1) := by decide +kernel
theorem dprog_44_method_10_code_16 : decode prog_44_method_10_code 16 = .ok (.iload 7, 2) := by decide +kernel
theorem dprog_44_method_10_code_18 : decode prog_44_method_10_code 18 = .ok (.caload, 1) := by decide +kernel
theorem dprog_44_method_10_code_19 : decode prog_44_method_10_code 19 = .ok (.baload, 1) := by decide +kernel
theorem dprog_44_method_10_code_20 : decode prog_44_method_10_code 20 = .ok (.istore 8, 2) := by decide +kernel
theorem dprog_44_method_10_code_22 : decode prog_44_method_10_code 22 = .ok (.lload 5, 2) := by decide +kernel
theorem dprog_44_method_10_code_24 : decode prog_44_method_10_code 24 = .ok (.iload 8, 2) := by decide +kernel
theorem dprog_44_method_10_code_26 : decode prog_44_method_10_code 26 = .ok (.bipush 10, 2) := by decide +kernel
theorem dprog_44_method_10_code_28 : decode prog_44_method_10_code 28 = .ok (.if_icmp .ge 8, 3) := by decide +kernel
theorem dprog_44_method_10_code_31 : decode prog_44_method_10_code 31 = .ok (.bipush 10, 2) := by decide +kernel
theorem dprog_44_method_10_code_33 : decode prog_44_method_10_code 33 = .ok (.goto 5, 3) := by decide +kernel
theorem dprog_44_method_10_code_36 : decode prog_44_method_10_code 36 = .ok (.bipush 100, 2) := by decide +kernel
theorem dprog_44_method_10_code_38 : decode prog_44_method_10_code 38 = .ok (.i2l, 1) := by decide +kernel
theorem dprog_44_method_10_code_39 : decode prog_44_method_10_code 39 = .ok (.lmul, 1) := by decide +kernel
theorem dprog_44_method_10_code_40 : decode prog_44_method_10_code 40 = .ok (.iload 8, 2) := by decide +kernel
theorem dprog_44_method_10_code_42 : decode prog_44_method_10_code 42 = .ok (.i2l, 1) := by decide +kernel
theorem dprog_44_method_10_code_43 : decode prog_44_method_10_code 43 = .ok (.ladd, 1) := by decide +kernel
theorem dprog_44_method_10_code_44 : decode prog_44_method_10_code 44 = .ok (.lstore 5, 2) := by decide +kernel
theorem dprog_44_method_10_code_46 : decode prog_44_method_10_code 46 = .ok (.iload 7, 2) := by decide +kernel
theorem dprog_44_method_10_code_48 : decode prog_44_method_10_code 48 = .ok (.iload_n 3, 1) := by decide +kernel
theorem dprog_44_method_10_code_49 : decode prog_44_method_10_code 49 = .ok (.isub, 1) := by decide +kernel
theorem dprog_44_method_10_code_50 : decode prog_44_method_10_code 50 = .ok (.bipush 8, 2) := by decide +kernel
theorem dprog_44_method_10_code_52 : decode prog_44_method_10_code 52 = .ok (.irem, 1) := by decide +kernel
theorem dprog_44_method_10_code_53 : decode prog_44_method_10_code 53 = .ok (.bipush 7, 2) := by decide +kernel
theorem dprog_44_method_10_code_55 : decode prog_44_method_10_code 55 = .ok (.if_icmp .ne 11, 3) := by decide +kernel
theorem dprog_44_method_10_code_58 : decode prog_44_method_10_code 58 = .ok (.lload 5, 2) := by decide +kernel
theorem dprog_44_method_10_code_60 : decode prog_44_method_10_code 60 = .ok (.ldc2_w 183, 3) := by decide +kernel
theorem dprog_44_method_10_code_63 : decode prog_44_method_10_code 63 = .ok (.lrem, 1) := by decide +kernel
theorem dprog_44_method_10_code_64 : decode prog_44_method_10_code 64 = .ok (.lstore 5, 2) := by decide +kernel
def own_nx (N : Int64) (v : Int32) (i : Int32) (fr : Int32) : Int64 := (if ((i - fr) % (8 : Int32)) = (7 : Int32) then (((N * ((if v < (10 : Int32) then (10 : Int32) else (100 : Int32)).toInt64)) + (v.toInt64)) % (97 : Int64)) else ((N * ((if v < (10 : Int32) then (10 : Int32) else (100 : Int32)).toInt64)) + (v.toInt64)))
def own_B : Nat → Int
  | 0 => 97
  | j + 1 => 100 * own_B j
theorem own_Bb {j : Nat} (h : j < 8) : 97 ≤ own_B j ∧ own_B j ≤ 9700000000000000 := by
  have : j = 0 ∨ j = 1 ∨ j = 2 ∨ j = 3 ∨ j = 4 ∨ j = 5 ∨ j = 6 ∨ j = 7 := by omega
  rcases this with rfl | rfl | rfl | rfl | rfl | rfl | rfl | rfl <;> simp [own_B]
def own_inv (nf ni : Nat) (N : Int64) (E : Int32) : Prop := 0 ≤ N.toInt ∧ N.toInt < own_B ((ni - nf) % 8) ∧ 0 ≤ E.toInt ∧ E.toInt < 97 ∧ N.toInt % 97 = E.toInt
theorem own_inv0 {nf : Nat} {rem : Int32} (h : 0 ≤ rem.toInt ∧ rem.toInt < 97) : own_inv nf nf rem.toInt64 rem := by
  have e := c_i2l rem
  refine ⟨by omega, ?_, h.1, h.2, by omega⟩
  rw [show (nf - nf) % 8 = 0 by omega]
  show _ < (97 : Int); omega
theorem own_modL {x : Int64} (h : 0 ≤ x.toInt) : (x % 97).toInt = x.toInt % 97 := by
  rw [Int64.toInt_mod, show (97 : Int64).toInt = 97 from rfl]; exact (tr _ _).1 h
theorem own_end {nf ni : Nat} {N : Int64} {E : Int32} {u : Nat → Int32} (inv : own_inv nf ni N E) : (some (Value.int (N % 97).toInt32)) = some (.int (own_fold u E ni 0)) := by
  obtain ⟨h1, h2, h3, h4, h5⟩ := inv
  have e1 := own_modL h1
  have e2 := c_l2i (N % 97)
  have e3 := rng32 (N % 97).toInt32
  have : (N % 97).toInt32 = E := Int32.toInt_inj.mp (by omega)
  rw [this]; rfl
theorem own_invS {nf ni : Nat} {N : Int64} {E v i fr : Int32} (inv : own_inv nf ni N E) (hge : nf ≤ ni) (hi : i.toInt = (ni : Int)) (hf : fr.toInt = (nf : Int)) (hn : ni < 1000) (hv : 0 ≤ v.toInt ∧ v.toInt < 100) : own_inv nf (ni + 1) (own_nx N v i fr) (f6 E v) := by
  obtain ⟨h1, h2, h3, h4, h5⟩ := inv
  obtain ⟨g1, g2, g3⟩ := own_f6r E v ⟨h3, h4⟩ hv
  have hj : (ni - nf) % 8 < 8 := Nat.mod_lt _ (by decide)
  obtain ⟨b1, b2⟩ := own_Bb hj
  have hB : own_B ((ni - nf) % 8 + 1) = 100 * own_B ((ni - nf) % 8) := rfl
  have l8 : (8 : Int32).toInt = 8 := rfl
  have l7 : (7 : Int32).toInt = 7 := rfl
  have s1 := c_isub i fr
  have s2 := rng32 (i - fr)
  have s3 := (c_irem (i - fr) 8 8 l8).1 (by omega)
  have hv64 := c_i2l v
  obtain ⟨M, hM⟩ : ∃ M : Int64, M = ((N * ((if v < (10 : Int32) then (10 : Int32) else (100 : Int32)).toInt64)) + (v.toInt64)) := ⟨_, rfl⟩
  have hMv : M.toInt = (if v.toInt < 10 then N.toInt * 10 + v.toInt else N.toInt * 100 + v.toInt) := by
    by_cases q : v < 10
    · have q' : v.toInt < 10 := by rw [Int32.lt_iff_toInt_lt] at q; exact q
      rw [if_pos q']
      rw [if_pos q] at hM
      have a1 := c_lmul N (10 : Int32).toInt64
      rw [show (10 : Int32).toInt64.toInt = 10 from rfl] at a1
      have a2 := rng64 (N * (10 : Int32).toInt64)
      have a3 := c_ladd (N * (10 : Int32).toInt64) v.toInt64
      have a4 := rng64 (N * (10 : Int32).toInt64 + v.toInt64)
      rw [hM]; omega
    · have q' : ¬ v.toInt < 10 := by rw [Int32.lt_iff_toInt_lt] at q; exact q
      rw [if_neg q']
      rw [if_neg q] at hM
      have a1 := c_lmul N (100 : Int32).toInt64
      rw [show (100 : Int32).toInt64.toInt = 100 from rfl] at a1
      have a2 := rng64 (N * (100 : Int32).toInt64)
      have a3 := c_ladd (N * (100 : Int32).toInt64) v.toInt64
      have a4 := rng64 (N * (100 : Int32).toInt64 + v.toInt64)
      rw [hM]; omega
  have hM0 : 0 ≤ M.toInt ∧ M.toInt < 100 * own_B ((ni - nf) % 8) ∧ M.toInt % 97 = (f6 E v).toInt := by
    rw [hMv, g3]; split <;> omega
  have hx : own_nx N v i fr = if ((i - fr) % (8 : Int32)) = (7 : Int32) then M % 97 else M := by rw [hM]; rfl
  have hmd := own_modL hM0.1
  rw [hx]
  by_cases q : ((i - fr) % (8 : Int32)) = (7 : Int32)
  · rw [if_pos q]
    rw [← Int32.toInt_inj, l7] at q
    have e : (ni + 1 - nf) % 8 = 0 := by omega
    refine ⟨by omega, ?_, g1, g2, by omega⟩
    rw [e]; show _ < (97 : Int); omega
  · rw [if_neg q]
    rw [← Int32.toInt_inj, l7] at q
    have e : (ni + 1 - nf) % 8 = (ni - nf) % 8 + 1 := by omega
    refine ⟨hM0.1, ?_, g1, g2, hM0.2.2⟩
    rw [e, hB]; exact hM0.2.1

theorem dprog_44_method_10_code_66 : decode prog_44_method_10_code 66 = .ok (.iinc 7 1, 3) := by decide +kernel
theorem dprog_44_method_10_code_69 : decode prog_44_method_10_code 69 = .ok (.goto (-62), 3) := by decide +kernel
theorem ef_rm4 (m_ : MethodId) (va : Addr) (rem : Int32) (ca : Addr) (fr : Int32) (to : Int32) : entryFrame m_ #[(.ref va), (.int rem), (.ref ca), (.int fr), (.int to)] 9 = mkF m_ 0 #[.val (.ref va), .val (.int rem), .val (.ref ca), .val (.int fr), .val (.int to), .unset, .unset, .unset, .unset] [] := by first | (simp [entryFrame, mkF, argsToLocals, Value.category]; done) | rfl
theorem own_pn1 : plainName "com/example/banksum/banksum/iban/Iban" = true := by first | (simp [plainName, overriddenIn]; done) | decide +kernel
set_option maxRecDepth 65536 in
set_option maxHeartbeats 40000000 in
theorem rm4 (l : Launch) (Z : State) (a0 : Array Value) (hw : ∀ d ∈ tables_1, d.before a0 Z = true) (va : Addr) (rem : Int32) (ca : Addr) (fr : Int32) (to : Int32) (k1 k2 : ClassId) (vf c : Nat → Int32) (nf nt : Nat) (h0 : Heap) (n0 : Nat) (Z0 : n0 ≤ h0.size) (V : own_A Z h0 va k1 .byte 128 (fun x => .int (vf x))) (W : own_A Z h0 ca k2 .char 18 (fun x => .int (c x))) (hc : ∀ i, i < 18 → 0 ≤ (c i).toInt ∧ (c i).toInt < 128) (hv : ∀ x, 0 ≤ (vf x).toInt ∧ (vf x).toInt < 100) (hrem : 0 ≤ rem.toInt ∧ rem.toInt < 97) (hfr : fr.toInt = (nf : Int)) (hto : to.toInt = (nt : Int)) (hle : nf ≤ nt) (h18 : nt ≤ 18) :
    own_Met l Z (⟨"com/example/banksum/banksum/iban/Iban", "remainder", "([BI[CII)I"⟩ : MethodName) prog_44_method_10_code 9 (some .int) ({ frames := 0, cells := 0, slots := 0, locals := 0 } : Room) #[(.ref va), (.int rem), (.ref ca), (.int fr), (.int to)] h0 (fun v h L => v = some (.int (own_fold (own_u vf c) rem nf (nt - nf))) ∧ Fr n0 L ∧ h = h0) := by
  refine own_body #[.val (.ref va), .val (.int rem), .val (.ref ca), .val (.int fr), .val (.int to), .unset, .unset, .unset, .unset] (plainFor_of_name own_pn1) (fun m_ => ef_rm4 m_ va rem ca fr to) ?_
  intro p_ e_ s_ m_ below meth c_ s₁ X0 hx hby hml hret hlk hZ hown hnm e0
  have N0 := Fr.nil n0
  show own_Out p_ e_ below s_ _ _ _ s₁ (mkF m_ 0 #[.val (.ref va), .val (.int rem), .val (.ref ca), .val (.int fr), .val (.int to), .unset, .unset, .unset, .unset] [])
  refine own_st s₁ (mkF m_ 7 #[.val (.ref va), .val (.int rem), .val (.ref ca), .val (.int fr), .val (.int to), .val (.long (rem.toInt64)), .second, .val (.int fr), .unset] []) (fun t_ k_ => ?_) ?_
  · refine XS.iloadN X0.here hx rfl (hb hby dprog_44_method_10_code_0) rfl ?_
    show Steps p_.tables e_ below (s₁.setTop (mkF m_ 1 #[.val (.ref va), .val (.int rem), .val (.ref ca), .val (.int fr), .val (.int to), .unset, .unset, .unset, .unset] [(.int rem)])) t_
    refine XS.i2l X0.here hx rfl (hb hby dprog_44_method_10_code_1) rfl ?_
    show Steps p_.tables e_ below (s₁.setTop (mkF m_ 2 #[.val (.ref va), .val (.int rem), .val (.ref ca), .val (.int fr), .val (.int to), .unset, .unset, .unset, .unset] [(.long (rem.toInt64))])) t_
    refine XS.lstore X0.here hx rfl (hb hby dprog_44_method_10_code_2) rfl (l' := #[.val (.ref va), .val (.int rem), .val (.ref ca), .val (.int fr), .val (.int to), .val (.long (rem.toInt64)), .second, .unset, .unset]) rfl ?_
    show Steps p_.tables e_ below (s₁.setTop (mkF m_ 4 #[.val (.ref va), .val (.int rem), .val (.ref ca), .val (.int fr), .val (.int to), .val (.long (rem.toInt64)), .second, .unset, .unset] [])) t_
    refine XS.iloadN X0.here hx rfl (hb hby dprog_44_method_10_code_4) rfl ?_
    show Steps p_.tables e_ below (s₁.setTop (mkF m_ 5 #[.val (.ref va), .val (.int rem), .val (.ref ca), .val (.int fr), .val (.int to), .val (.long (rem.toInt64)), .second, .unset, .unset] [(.int fr)])) t_
    refine XS.istore X0.here hx rfl (hb hby dprog_44_method_10_code_5) rfl (l' := #[.val (.ref va), .val (.int rem), .val (.ref ca), .val (.int fr), .val (.int to), .val (.long (rem.toInt64)), .second, .val (.int fr), .unset]) rfl ?_
    show Steps p_.tables e_ below (s₁.setTop (mkF m_ 7 #[.val (.ref va), .val (.int rem), .val (.ref ca), .val (.int fr), .val (.int to), .val (.long (rem.toInt64)), .second, .val (.int fr), .unset] [])) t_
    exact k_
  have loop : ∀ (kk : Nat) (i : Int32) (ni : Nat) (N : Int64) (E : Int32) (s8 : Slot), One s8 → ni + kk = nt → nf ≤ ni → i.toInt = (ni : Int) → own_inv nf ni N E → own_fold (own_u vf c) E ni kk = own_fold (own_u vf c) rem nf (nt - nf) → own_Out p_ e_ below s_ (fun v h L => v = some (.int (own_fold (own_u vf c) rem nf (nt - nf))) ∧ Fr n0 L ∧ h = h0) 0 0 s₁ (mkF m_ 7 #[.val (.ref va), .val (.int rem), .val (.ref ca), .val (.int fr), .val (.int to), .val (.long N), .second, .val (.int i), s8] []) := by
    intro kk
    induction kk with
    | zero =>
      intro i ni N E s8 hs8 hk hge hi inv hf
      refine own_st s₁ (mkF m_ 79 #[.val (.ref va), .val (.int rem), .val (.ref ca), .val (.int fr), .val (.int to), .val (.long N), .second, .val (.int i), s8] [(.int ((N % (97 : Int64)).toInt32))]) (fun t_ k_ => ?_) ?_
      · refine XS.iload X0.here hx rfl (hb hby dprog_44_method_10_code_7) rfl ?_
        show Steps p_.tables e_ below (s₁.setTop (mkF m_ 9 #[.val (.ref va), .val (.int rem), .val (.ref ca), .val (.int fr), .val (.int to), .val (.long N), .second, .val (.int i), s8] [(.int i)])) t_
        refine XS.iload X0.here hx rfl (hb hby dprog_44_method_10_code_9) rfl ?_
        show Steps p_.tables e_ below (s₁.setTop (mkF m_ 11 #[.val (.ref va), .val (.int rem), .val (.ref ca), .val (.int fr), .val (.int to), .val (.long N), .second, .val (.int i), s8] [(.int to), (.int i)])) t_
        refine XS.icmpYes X0.here hx rfl (pc0 := 11) (pc' := 72) rfl (hb hby dprog_44_method_10_code_11) rfl (flt (own_ge hi hto hk : ¬ (i < to))).2.1 (by decide) (by decide) ?_
        show Steps p_.tables e_ below (s₁.setTop (mkF m_ 72 #[.val (.ref va), .val (.int rem), .val (.ref ca), .val (.int fr), .val (.int to), .val (.long N), .second, .val (.int i), s8] [])) t_
        refine XS.lload X0.here hx rfl (hb hby dprog_44_method_10_code_72) rfl ?_
        show Steps p_.tables e_ below (s₁.setTop (mkF m_ 74 #[.val (.ref va), .val (.int rem), .val (.ref ca), .val (.int fr), .val (.int to), .val (.long N), .second, .val (.int i), s8] [(.long N)])) t_
        refine X0.ldc2Long hx hown (mvT hZ (hw _ (List.mem_of_getElem? (i := 20) rfl))) (g := (mkF m_ 74 #[.val (.ref va), .val (.int rem), .val (.ref ca), .val (.int fr), .val (.int to), .val (.long N), .second, .val (.int i), s8] [(.long N)])) rfl (hb hby dprog_44_method_10_code_74) _ ?_
        show Steps p_.tables e_ below (s₁.setTop (mkF m_ 77 #[.val (.ref va), .val (.int rem), .val (.ref ca), .val (.int fr), .val (.int to), .val (.long N), .second, .val (.int i), s8] [(.long (97 : Int64)), (.long N)])) t_
        refine own_lrem X0 hx rfl (hb hby dprog_44_method_10_code_77) rfl (by decide) ?_
        show Steps p_.tables e_ below (s₁.setTop (mkF m_ 78 #[.val (.ref va), .val (.int rem), .val (.ref ca), .val (.int fr), .val (.int to), .val (.long N), .second, .val (.int i), s8] [(.long (N % (97 : Int64)))])) t_
        refine XS.l2i X0.here hx rfl (hb hby dprog_44_method_10_code_78) rfl ?_
        show Steps p_.tables e_ below (s₁.setTop (mkF m_ 79 #[.val (.ref va), .val (.int rem), .val (.ref ca), .val (.int fr), .val (.int to), .val (.long N), .second, .val (.int i), s8] [(.int ((N % (97 : Int64)).toInt32))])) t_
        exact k_
      refine own_retI X0 hx hlk hret (hb hby dprog_44_method_10_code_79) (by decide) (by decide) ?_
      rw [e0]
      exact ⟨by rw [← hf]; exact own_end inv, N0, rfl⟩
    | succ kk ih =>
      intro i ni N E s8 hs8 hk hge hi inv hf
      refine own_st s₁ (mkF m_ 7 #[.val (.ref va), .val (.int rem), .val (.ref ca), .val (.int fr), .val (.int to), .val (.long (own_nx N (own_u vf c ni) i fr)), .second, .val (.int (i + (1 : Int32))), .val (.int (own_u vf c ni))] []) (fun t_ k_ => ?_) ?_
      · refine XS.iload X0.here hx rfl (hb hby dprog_44_method_10_code_7) rfl ?_
        show Steps p_.tables e_ below (s₁.setTop (mkF m_ 9 #[.val (.ref va), .val (.int rem), .val (.ref ca), .val (.int fr), .val (.int to), .val (.long N), .second, .val (.int i), s8] [(.int i)])) t_
        refine XS.iload X0.here hx rfl (hb hby dprog_44_method_10_code_9) rfl ?_
        show Steps p_.tables e_ below (s₁.setTop (mkF m_ 11 #[.val (.ref va), .val (.int rem), .val (.ref ca), .val (.int fr), .val (.int to), .val (.long N), .second, .val (.int i), s8] [(.int to), (.int i)])) t_
        refine XS.icmpNo X0.here hx rfl (hb hby dprog_44_method_10_code_11) rfl (tlt (own_lt hi hto hk : i < to)).2.1 ?_
        show Steps p_.tables e_ below (s₁.setTop (mkF m_ 14 #[.val (.ref va), .val (.int rem), .val (.ref ca), .val (.int fr), .val (.int to), .val (.long N), .second, .val (.int i), s8] [])) t_
        refine XS.aloadN X0.here hx rfl (hb hby dprog_44_method_10_code_14) rfl rfl ?_
        show Steps p_.tables e_ below (s₁.setTop (mkF m_ 15 #[.val (.ref va), .val (.int rem), .val (.ref ca), .val (.int fr), .val (.int to), .val (.long N), .second, .val (.int i), s8] [(.ref va)])) t_
        refine XS.aloadN X0.here hx rfl (hb hby dprog_44_method_10_code_15) rfl rfl ?_
        show Steps p_.tables e_ below (s₁.setTop (mkF m_ 16 #[.val (.ref va), .val (.int rem), .val (.ref ca), .val (.int fr), .val (.int to), .val (.long N), .second, .val (.int i), s8] [(.ref ca), (.ref va)])) t_
        refine XS.iload X0.here hx rfl (hb hby dprog_44_method_10_code_16) rfl ?_
        show Steps p_.tables e_ below (s₁.setTop (mkF m_ 18 #[.val (.ref va), .val (.int rem), .val (.ref ca), .val (.int fr), .val (.int to), .val (.long N), .second, .val (.int i), s8] [(.int i), (.ref ca), (.ref va)])) t_
        refine own_ldC X0 hx hZ e0 W ni hi (by omega) (hb hby dprog_44_method_10_code_18) _ ?_
        show Steps p_.tables e_ below (s₁.setTop (mkF m_ 19 #[.val (.ref va), .val (.int rem), .val (.ref ca), .val (.int fr), .val (.int to), .val (.long N), .second, .val (.int i), s8] [(.int (c ni)), (.ref va)])) t_
        refine own_ldB X0 hx hZ e0 V (c ni).toNatClampNeg (nat_of (own_nn (hc ni (by omega)).1)) (own_lt128 (hc ni (by omega))) (hb hby dprog_44_method_10_code_19) _ ?_
        show Steps p_.tables e_ below (s₁.setTop (mkF m_ 20 #[.val (.ref va), .val (.int rem), .val (.ref ca), .val (.int fr), .val (.int to), .val (.long N), .second, .val (.int i), s8] [(.int (own_u vf c ni))])) t_
        refine XS.istoreS X0.here hx rfl (hb hby dprog_44_method_10_code_20) rfl rfl hs8 ?_
        show Steps p_.tables e_ below (s₁.setTop (mkF m_ 22 #[.val (.ref va), .val (.int rem), .val (.ref ca), .val (.int fr), .val (.int to), .val (.long N), .second, .val (.int i), .val (.int (own_u vf c ni))] [])) t_
        refine XS.lload X0.here hx rfl (hb hby dprog_44_method_10_code_22) rfl ?_
        show Steps p_.tables e_ below (s₁.setTop (mkF m_ 24 #[.val (.ref va), .val (.int rem), .val (.ref ca), .val (.int fr), .val (.int to), .val (.long N), .second, .val (.int i), .val (.int (own_u vf c ni))] [(.long N)])) t_
        refine XS.iload X0.here hx rfl (hb hby dprog_44_method_10_code_24) rfl ?_
        show Steps p_.tables e_ below (s₁.setTop (mkF m_ 26 #[.val (.ref va), .val (.int rem), .val (.ref ca), .val (.int fr), .val (.int to), .val (.long N), .second, .val (.int i), .val (.int (own_u vf c ni))] [(.int (own_u vf c ni)), (.long N)])) t_
        refine XS.bipush X0.here hx rfl (hb hby dprog_44_method_10_code_26) ?_
        show Steps p_.tables e_ below (s₁.setTop (mkF m_ 28 #[.val (.ref va), .val (.int rem), .val (.ref ca), .val (.int fr), .val (.int to), .val (.long N), .second, .val (.int i), .val (.int (own_u vf c ni))] [(.int (10 : Int32)), (.int (own_u vf c ni)), (.long N)])) t_
        have jn28 : ∀ t_, Steps p_.tables e_ below (s₁.setTop (mkF m_ 38 #[.val (.ref va), .val (.int rem), .val (.ref ca), .val (.int fr), .val (.int to), .val (.long N), .second, .val (.int i), .val (.int (own_u vf c ni))] [(.int (if (own_u vf c ni) < (10 : Int32) then (10 : Int32) else (100 : Int32))), (.long N)])) t_ → Steps p_.tables e_ below (s₁.setTop (mkF m_ 28 #[.val (.ref va), .val (.int rem), .val (.ref ca), .val (.int fr), .val (.int to), .val (.long N), .second, .val (.int i), .val (.int (own_u vf c ni))] [(.int (10 : Int32)), (.int (own_u vf c ni)), (.long N)])) t_ := by
          intro t_ k_
          by_cases hc28 : (own_u vf c ni) < (10 : Int32)
          · refine XS.icmpNo X0.here hx rfl (hb hby dprog_44_method_10_code_28) rfl (tlt hc28).2.1 ?_
            show Steps p_.tables e_ below (s₁.setTop (mkF m_ 31 #[.val (.ref va), .val (.int rem), .val (.ref ca), .val (.int fr), .val (.int to), .val (.long N), .second, .val (.int i), .val (.int (own_u vf c ni))] [(.long N)])) t_
            refine XS.bipush X0.here hx rfl (hb hby dprog_44_method_10_code_31) ?_
            show Steps p_.tables e_ below (s₁.setTop (mkF m_ 33 #[.val (.ref va), .val (.int rem), .val (.ref ca), .val (.int fr), .val (.int to), .val (.long N), .second, .val (.int i), .val (.int (own_u vf c ni))] [(.int (10 : Int32)), (.long N)])) t_
            refine XS.goto X0.here hx rfl (pc0 := 33) (pc' := 38) rfl (hb hby dprog_44_method_10_code_33) (by decide) (by decide) ?_
            show Steps p_.tables e_ below (s₁.setTop (mkF m_ 38 #[.val (.ref va), .val (.int rem), .val (.ref ca), .val (.int fr), .val (.int to), .val (.long N), .second, .val (.int i), .val (.int (own_u vf c ni))] [(.int (10 : Int32)), (.long N)])) t_
            simp only [if_pos hc28] at k_
            exact k_
          · refine XS.icmpYes X0.here hx rfl (pc0 := 28) (pc' := 36) rfl (hb hby dprog_44_method_10_code_28) rfl (flt hc28).2.1 (by decide) (by decide) ?_
            show Steps p_.tables e_ below (s₁.setTop (mkF m_ 36 #[.val (.ref va), .val (.int rem), .val (.ref ca), .val (.int fr), .val (.int to), .val (.long N), .second, .val (.int i), .val (.int (own_u vf c ni))] [(.long N)])) t_
            refine XS.bipush X0.here hx rfl (hb hby dprog_44_method_10_code_36) ?_
            show Steps p_.tables e_ below (s₁.setTop (mkF m_ 38 #[.val (.ref va), .val (.int rem), .val (.ref ca), .val (.int fr), .val (.int to), .val (.long N), .second, .val (.int i), .val (.int (own_u vf c ni))] [(.int (100 : Int32)), (.long N)])) t_
            simp only [if_neg hc28] at k_
            exact k_
        refine jn28 _ ?_
        show Steps p_.tables e_ below (s₁.setTop (mkF m_ 38 #[.val (.ref va), .val (.int rem), .val (.ref ca), .val (.int fr), .val (.int to), .val (.long N), .second, .val (.int i), .val (.int (own_u vf c ni))] [(.int (if (own_u vf c ni) < (10 : Int32) then (10 : Int32) else (100 : Int32))), (.long N)])) t_
        refine XS.i2l X0.here hx rfl (hb hby dprog_44_method_10_code_38) rfl ?_
        show Steps p_.tables e_ below (s₁.setTop (mkF m_ 39 #[.val (.ref va), .val (.int rem), .val (.ref ca), .val (.int fr), .val (.int to), .val (.long N), .second, .val (.int i), .val (.int (own_u vf c ni))] [(.long ((if (own_u vf c ni) < (10 : Int32) then (10 : Int32) else (100 : Int32)).toInt64)), (.long N)])) t_
        refine XS.lmul X0.here hx rfl (hb hby dprog_44_method_10_code_39) rfl ?_
        show Steps p_.tables e_ below (s₁.setTop (mkF m_ 40 #[.val (.ref va), .val (.int rem), .val (.ref ca), .val (.int fr), .val (.int to), .val (.long N), .second, .val (.int i), .val (.int (own_u vf c ni))] [(.long (N * ((if (own_u vf c ni) < (10 : Int32) then (10 : Int32) else (100 : Int32)).toInt64)))])) t_
        refine XS.iload X0.here hx rfl (hb hby dprog_44_method_10_code_40) rfl ?_
        show Steps p_.tables e_ below (s₁.setTop (mkF m_ 42 #[.val (.ref va), .val (.int rem), .val (.ref ca), .val (.int fr), .val (.int to), .val (.long N), .second, .val (.int i), .val (.int (own_u vf c ni))] [(.int (own_u vf c ni)), (.long (N * ((if (own_u vf c ni) < (10 : Int32) then (10 : Int32) else (100 : Int32)).toInt64)))])) t_
        refine XS.i2l X0.here hx rfl (hb hby dprog_44_method_10_code_42) rfl ?_
        show Steps p_.tables e_ below (s₁.setTop (mkF m_ 43 #[.val (.ref va), .val (.int rem), .val (.ref ca), .val (.int fr), .val (.int to), .val (.long N), .second, .val (.int i), .val (.int (own_u vf c ni))] [(.long ((own_u vf c ni).toInt64)), (.long (N * ((if (own_u vf c ni) < (10 : Int32) then (10 : Int32) else (100 : Int32)).toInt64)))])) t_
        refine XS.ladd X0.here hx rfl (hb hby dprog_44_method_10_code_43) rfl ?_
        show Steps p_.tables e_ below (s₁.setTop (mkF m_ 44 #[.val (.ref va), .val (.int rem), .val (.ref ca), .val (.int fr), .val (.int to), .val (.long N), .second, .val (.int i), .val (.int (own_u vf c ni))] [(.long ((N * ((if (own_u vf c ni) < (10 : Int32) then (10 : Int32) else (100 : Int32)).toInt64)) + ((own_u vf c ni).toInt64)))])) t_
        refine XS.lstore X0.here hx rfl (hb hby dprog_44_method_10_code_44) rfl (l' := #[.val (.ref va), .val (.int rem), .val (.ref ca), .val (.int fr), .val (.int to), .val (.long ((N * ((if (own_u vf c ni) < (10 : Int32) then (10 : Int32) else (100 : Int32)).toInt64)) + ((own_u vf c ni).toInt64))), .second, .val (.int i), .val (.int (own_u vf c ni))]) rfl ?_
        show Steps p_.tables e_ below (s₁.setTop (mkF m_ 46 #[.val (.ref va), .val (.int rem), .val (.ref ca), .val (.int fr), .val (.int to), .val (.long ((N * ((if (own_u vf c ni) < (10 : Int32) then (10 : Int32) else (100 : Int32)).toInt64)) + ((own_u vf c ni).toInt64))), .second, .val (.int i), .val (.int (own_u vf c ni))] [])) t_
        refine XS.iload X0.here hx rfl (hb hby dprog_44_method_10_code_46) rfl ?_
        show Steps p_.tables e_ below (s₁.setTop (mkF m_ 48 #[.val (.ref va), .val (.int rem), .val (.ref ca), .val (.int fr), .val (.int to), .val (.long ((N * ((if (own_u vf c ni) < (10 : Int32) then (10 : Int32) else (100 : Int32)).toInt64)) + ((own_u vf c ni).toInt64))), .second, .val (.int i), .val (.int (own_u vf c ni))] [(.int i)])) t_
        refine XS.iloadN X0.here hx rfl (hb hby dprog_44_method_10_code_48) rfl ?_
        show Steps p_.tables e_ below (s₁.setTop (mkF m_ 49 #[.val (.ref va), .val (.int rem), .val (.ref ca), .val (.int fr), .val (.int to), .val (.long ((N * ((if (own_u vf c ni) < (10 : Int32) then (10 : Int32) else (100 : Int32)).toInt64)) + ((own_u vf c ni).toInt64))), .second, .val (.int i), .val (.int (own_u vf c ni))] [(.int fr), (.int i)])) t_
        refine XS.isub X0.here hx rfl (hb hby dprog_44_method_10_code_49) rfl ?_
        show Steps p_.tables e_ below (s₁.setTop (mkF m_ 50 #[.val (.ref va), .val (.int rem), .val (.ref ca), .val (.int fr), .val (.int to), .val (.long ((N * ((if (own_u vf c ni) < (10 : Int32) then (10 : Int32) else (100 : Int32)).toInt64)) + ((own_u vf c ni).toInt64))), .second, .val (.int i), .val (.int (own_u vf c ni))] [(.int (i - fr))])) t_
        refine XS.bipush X0.here hx rfl (hb hby dprog_44_method_10_code_50) ?_
        show Steps p_.tables e_ below (s₁.setTop (mkF m_ 52 #[.val (.ref va), .val (.int rem), .val (.ref ca), .val (.int fr), .val (.int to), .val (.long ((N * ((if (own_u vf c ni) < (10 : Int32) then (10 : Int32) else (100 : Int32)).toInt64)) + ((own_u vf c ni).toInt64))), .second, .val (.int i), .val (.int (own_u vf c ni))] [(.int (8 : Int32)), (.int (i - fr))])) t_
        refine iremM X0 hx rfl (hb hby dprog_44_method_10_code_52) rfl (by decide) ?_
        show Steps p_.tables e_ below (s₁.setTop (mkF m_ 53 #[.val (.ref va), .val (.int rem), .val (.ref ca), .val (.int fr), .val (.int to), .val (.long ((N * ((if (own_u vf c ni) < (10 : Int32) then (10 : Int32) else (100 : Int32)).toInt64)) + ((own_u vf c ni).toInt64))), .second, .val (.int i), .val (.int (own_u vf c ni))] [(.int ((i - fr) % (8 : Int32)))])) t_
        refine XS.bipush X0.here hx rfl (hb hby dprog_44_method_10_code_53) ?_
        show Steps p_.tables e_ below (s₁.setTop (mkF m_ 55 #[.val (.ref va), .val (.int rem), .val (.ref ca), .val (.int fr), .val (.int to), .val (.long ((N * ((if (own_u vf c ni) < (10 : Int32) then (10 : Int32) else (100 : Int32)).toInt64)) + ((own_u vf c ni).toInt64))), .second, .val (.int i), .val (.int (own_u vf c ni))] [(.int (7 : Int32)), (.int ((i - fr) % (8 : Int32)))])) t_
        have jn55 : ∀ t_, Steps p_.tables e_ below (s₁.setTop (mkF m_ 66 #[.val (.ref va), .val (.int rem), .val (.ref ca), .val (.int fr), .val (.int to), .val (.long (own_nx N (own_u vf c ni) i fr)), .second, .val (.int i), .val (.int (own_u vf c ni))] [])) t_ → Steps p_.tables e_ below (s₁.setTop (mkF m_ 55 #[.val (.ref va), .val (.int rem), .val (.ref ca), .val (.int fr), .val (.int to), .val (.long ((N * ((if (own_u vf c ni) < (10 : Int32) then (10 : Int32) else (100 : Int32)).toInt64)) + ((own_u vf c ni).toInt64))), .second, .val (.int i), .val (.int (own_u vf c ni))] [(.int (7 : Int32)), (.int ((i - fr) % (8 : Int32)))])) t_ := by
          intro t_ k_
          by_cases hc55 : ((i - fr) % (8 : Int32)) = (7 : Int32)
          · refine XS.icmpNo X0.here hx rfl (hb hby dprog_44_method_10_code_55) rfl (teq hc55).2 ?_
            show Steps p_.tables e_ below (s₁.setTop (mkF m_ 58 #[.val (.ref va), .val (.int rem), .val (.ref ca), .val (.int fr), .val (.int to), .val (.long ((N * ((if (own_u vf c ni) < (10 : Int32) then (10 : Int32) else (100 : Int32)).toInt64)) + ((own_u vf c ni).toInt64))), .second, .val (.int i), .val (.int (own_u vf c ni))] [])) t_
            refine XS.lload X0.here hx rfl (hb hby dprog_44_method_10_code_58) rfl ?_
            show Steps p_.tables e_ below (s₁.setTop (mkF m_ 60 #[.val (.ref va), .val (.int rem), .val (.ref ca), .val (.int fr), .val (.int to), .val (.long ((N * ((if (own_u vf c ni) < (10 : Int32) then (10 : Int32) else (100 : Int32)).toInt64)) + ((own_u vf c ni).toInt64))), .second, .val (.int i), .val (.int (own_u vf c ni))] [(.long ((N * ((if (own_u vf c ni) < (10 : Int32) then (10 : Int32) else (100 : Int32)).toInt64)) + ((own_u vf c ni).toInt64)))])) t_
            refine X0.ldc2Long hx hown (mvT hZ (hw _ (List.mem_of_getElem? (i := 20) rfl))) (g := (mkF m_ 60 #[.val (.ref va), .val (.int rem), .val (.ref ca), .val (.int fr), .val (.int to), .val (.long ((N * ((if (own_u vf c ni) < (10 : Int32) then (10 : Int32) else (100 : Int32)).toInt64)) + ((own_u vf c ni).toInt64))), .second, .val (.int i), .val (.int (own_u vf c ni))] [(.long ((N * ((if (own_u vf c ni) < (10 : Int32) then (10 : Int32) else (100 : Int32)).toInt64)) + ((own_u vf c ni).toInt64)))])) rfl (hb hby dprog_44_method_10_code_60) _ ?_
            show Steps p_.tables e_ below (s₁.setTop (mkF m_ 63 #[.val (.ref va), .val (.int rem), .val (.ref ca), .val (.int fr), .val (.int to), .val (.long ((N * ((if (own_u vf c ni) < (10 : Int32) then (10 : Int32) else (100 : Int32)).toInt64)) + ((own_u vf c ni).toInt64))), .second, .val (.int i), .val (.int (own_u vf c ni))] [(.long (97 : Int64)), (.long ((N * ((if (own_u vf c ni) < (10 : Int32) then (10 : Int32) else (100 : Int32)).toInt64)) + ((own_u vf c ni).toInt64)))])) t_
            refine own_lrem X0 hx rfl (hb hby dprog_44_method_10_code_63) rfl (by decide) ?_
            show Steps p_.tables e_ below (s₁.setTop (mkF m_ 64 #[.val (.ref va), .val (.int rem), .val (.ref ca), .val (.int fr), .val (.int to), .val (.long ((N * ((if (own_u vf c ni) < (10 : Int32) then (10 : Int32) else (100 : Int32)).toInt64)) + ((own_u vf c ni).toInt64))), .second, .val (.int i), .val (.int (own_u vf c ni))] [(.long (((N * ((if (own_u vf c ni) < (10 : Int32) then (10 : Int32) else (100 : Int32)).toInt64)) + ((own_u vf c ni).toInt64)) % (97 : Int64)))])) t_
            refine XS.lstore X0.here hx rfl (hb hby dprog_44_method_10_code_64) rfl (l' := #[.val (.ref va), .val (.int rem), .val (.ref ca), .val (.int fr), .val (.int to), .val (.long (((N * ((if (own_u vf c ni) < (10 : Int32) then (10 : Int32) else (100 : Int32)).toInt64)) + ((own_u vf c ni).toInt64)) % (97 : Int64))), .second, .val (.int i), .val (.int (own_u vf c ni))]) rfl ?_
            show Steps p_.tables e_ below (s₁.setTop (mkF m_ 66 #[.val (.ref va), .val (.int rem), .val (.ref ca), .val (.int fr), .val (.int to), .val (.long (((N * ((if (own_u vf c ni) < (10 : Int32) then (10 : Int32) else (100 : Int32)).toInt64)) + ((own_u vf c ni).toInt64)) % (97 : Int64))), .second, .val (.int i), .val (.int (own_u vf c ni))] [])) t_
            simp only [own_nx, if_pos hc55] at k_
            exact k_
          · refine XS.icmpYes X0.here hx rfl (pc0 := 55) (pc' := 66) rfl (hb hby dprog_44_method_10_code_55) rfl (feq hc55).2 (by decide) (by decide) ?_
            show Steps p_.tables e_ below (s₁.setTop (mkF m_ 66 #[.val (.ref va), .val (.int rem), .val (.ref ca), .val (.int fr), .val (.int to), .val (.long ((N * ((if (own_u vf c ni) < (10 : Int32) then (10 : Int32) else (100 : Int32)).toInt64)) + ((own_u vf c ni).toInt64))), .second, .val (.int i), .val (.int (own_u vf c ni))] [])) t_
            simp only [own_nx, if_neg hc55] at k_
            exact k_
        refine jn55 _ ?_
        show Steps p_.tables e_ below (s₁.setTop (mkF m_ 66 #[.val (.ref va), .val (.int rem), .val (.ref ca), .val (.int fr), .val (.int to), .val (.long (own_nx N (own_u vf c ni) i fr)), .second, .val (.int i), .val (.int (own_u vf c ni))] [])) t_
        refine XS.iinc X0.here hx rfl (hb hby dprog_44_method_10_code_66) rfl (l' := #[.val (.ref va), .val (.int rem), .val (.ref ca), .val (.int fr), .val (.int to), .val (.long (own_nx N (own_u vf c ni) i fr)), .second, .val (.int (i + (1 : Int32))), .val (.int (own_u vf c ni))]) rfl ?_
        show Steps p_.tables e_ below (s₁.setTop (mkF m_ 69 #[.val (.ref va), .val (.int rem), .val (.ref ca), .val (.int fr), .val (.int to), .val (.long (own_nx N (own_u vf c ni) i fr)), .second, .val (.int (i + (1 : Int32))), .val (.int (own_u vf c ni))] [])) t_
        refine XS.goto X0.here hx rfl (pc0 := 69) (pc' := 7) rfl (hb hby dprog_44_method_10_code_69) (by decide) (by decide) ?_
        show Steps p_.tables e_ below (s₁.setTop (mkF m_ 7 #[.val (.ref va), .val (.int rem), .val (.ref ca), .val (.int fr), .val (.int to), .val (.long (own_nx N (own_u vf c ni) i fr)), .second, .val (.int (i + (1 : Int32))), .val (.int (own_u vf c ni))] [])) t_
        exact k_
      exact ih _ (ni + 1) _ (f6 E (own_u vf c ni)) _ (One.val rfl) (by omega) (by omega) (own_inc hi (by omega)) (own_invS inv hge hi hfr (by omega) (hv _)) hf
  exact loop (nt - nf) fr nf rem.toInt64 rem .unset One.u (by omega) (Nat.le_refl _) hfr (own_inv0 hrem) rfl
def own_r (r : Int32) : Int32 := ((r &&& (2147483647 : Int32)) % (97 : Int32))
def own_f (f : Int32) : Int32 := ((f &&& (2147483647 : Int32)) % (19 : Int32))
def own_t (f t : Int32) : Int32 := ((own_f f) + ((t &&& (2147483647 : Int32)) % ((19 : Int32) - (own_f f))))
def own_fn (f : Int32) : Nat := (own_f f).toNatClampNeg
def own_tn (f t : Int32) : Nat := (own_t f t).toNatClampNeg
theorem own_hr (r : Int32) : 0 ≤ (own_r r).toInt ∧ (own_r r).toInt < 97 := by
  have h1 := c_and r 2147483647 (by decide)
  have h2 := c_iremV (r &&& 2147483647) 97
  have : (97 : Int32).toInt = 97 := rfl
  unfold own_r; omega
theorem own_f0 (f : Int32) : 0 ≤ (own_f f).toInt ∧ (own_f f).toInt < 19 := by
  have h1 := c_and f 2147483647 (by decide)
  have h2 := c_iremV (f &&& 2147483647) 19
  have : (19 : Int32).toInt = 19 := rfl
  unfold own_f; omega
theorem own_19 (f : Int32) : ((19 : Int32) - own_f f).toInt = 19 - (own_f f).toInt := by
  have := own_f0 f; have := c_isub 19 (own_f f); have := rng32 (19 - own_f f); have : (19 : Int32).toInt = 19 := rfl; omega
theorem own_nz19 (f : Int32) : ((19 : Int32) - own_f f) ≠ 0 := fun h => by
  have := own_f0 f; have e := own_19 f; rw [h] at e; have : (0 : Int32).toInt = 0 := rfl; omega
theorem own_t0 (f t : Int32) : (own_f f).toInt ≤ (own_t f t).toInt ∧ (own_t f t).toInt < 19 := by
  have h1 := c_and t 2147483647 (by decide)
  have h2 := c_iremV (t &&& 2147483647) ((19 : Int32) - own_f f)
  have h3 := own_19 f; have h4 := own_f0 f
  have h5 := c_iadd (own_f f) ((t &&& 2147483647) % ((19 : Int32) - own_f f))
  have h6 := rng32 (own_f f + ((t &&& 2147483647) % ((19 : Int32) - own_f f)))
  unfold own_t; omega
theorem own_hf (f : Int32) : (own_f f).toInt = (own_fn f : Int) := by
  have := own_f0 f; unfold own_fn; simp only [Int32.toNatClampNeg]; omega
theorem own_ht (f t : Int32) : (own_t f t).toInt = (own_tn f t : Int) := by
  have := own_f0 f; have := own_t0 f t; unfold own_tn; simp only [Int32.toNatClampNeg]; omega
theorem own_hle (f t : Int32) : own_fn f ≤ own_tn f t := by
  have := own_hf f; have := own_ht f t; have := own_t0 f t; omega
theorem own_h18 (f t : Int32) : own_tn f t ≤ 18 := by
  have := own_ht f t; have := own_t0 f t; omega

theorem own_pd1 : parseMethodDescriptor "(I)C" = some ⟨[.int], some .char⟩ := by decide +kernel
theorem own_pd2 : parseMethodDescriptor "(JI)B" = some ⟨[.long, .int], some .byte⟩ := by decide +kernel
def own_vals (vals : Int64) (x : Nat) : Int32 := if x = 72 then (f2 vals (7 : Int32)) else (if x = 71 then (f2 vals (6 : Int32)) else (if x = 70 then (f2 vals (5 : Int32)) else (if x = 69 then (f2 vals (4 : Int32)) else (if x = 51 then (f2 vals (3 : Int32)) else (if x = 50 then (f2 vals (2 : Int32)) else (if x = 49 then (f2 vals (1 : Int32)) else (if x = 48 then (f2 vals (0 : Int32)) else (0 : Int32))))))))
theorem own_pd3 : parseMethodDescriptor "(JI)I" = some ⟨[.long, .int], some .int⟩ := by decide +kernel
def own_chars (cs : Int64) (x : Nat) : Int32 := (([(f1 (f3 cs (0 : Int32))), (f1 (f3 cs (1 : Int32))), (f1 (f3 cs (2 : Int32))), (f1 (f3 cs (3 : Int32))), (f1 (f3 cs (4 : Int32))), (f1 (f3 cs (5 : Int32))), (f1 (f3 cs (6 : Int32))), (f1 (f3 cs (7 : Int32))), (f1 (f3 cs (8 : Int32))), (f1 (f3 cs (9 : Int32))), (f1 (f3 cs (10 : Int32))), (f1 (f3 cs (11 : Int32))), (f1 (f3 cs (12 : Int32))), (f1 (f3 cs (13 : Int32))), (f1 (f3 cs (14 : Int32))), (f1 (f3 cs (15 : Int32))), (f1 (f3 cs (16 : Int32))), (f1 (f3 cs (17 : Int32)))] : List Int32).getD x 0)
theorem own_f2b (vals : Int64) (k : Int32) : 0 ≤ (f2 vals k).toInt ∧ (f2 vals k).toInt < 100 := by
  unfold f2
  generalize ((vals.toUInt64 >>> (((7 : Int32) * k) &&& 0x3f).toInt64.toUInt64).toInt64) = w
  have h1 := c_maskL w 127 7 (by decide) (by decide)
  have h2 : (w &&& 127).toInt = w.toInt % 128 := by simpa using h1
  have h3 : ((w &&& 127) % 100).toInt = (w &&& 127).toInt % 100 := by
    rw [Int64.toInt_mod, show (100 : Int64).toInt = 100 from rfl]; exact (tr _ _).1 (by omega)
  have h4 := c_l2i ((w &&& 127) % 100)
  have h5 := rng32 ((w &&& 127) % 100).toInt32
  have h6 := c_i2b ((w &&& 127) % 100).toInt32
  omega
def own_P (z : Int32) : Prop := 0 ≤ z.toInt ∧ z.toInt < 100
theorem own_ite {c : Prop} [Decidable c] {y z : Int32} (h1 : own_P y) (h2 : own_P z) : own_P (if c then y else z) := by by_cases q : c <;> simp only [q, if_true, if_false] <;> assumption
theorem own_hv (vals : Int64) : ∀ x, 0 ≤ (own_vals vals x).toInt ∧ (own_vals vals x).toInt < 100 := by
  intro x
  show own_P (own_vals vals x)
  unfold own_vals
  repeat refine own_ite (own_f2b vals _) ?_
  exact (by decide : 0 ≤ (0 : Int32).toInt ∧ (0 : Int32).toInt < 100)
theorem own_f1b (cs : Int64) (k : Int32) : 0 ≤ (f1 (f3 cs k)).toInt ∧ (f1 (f3 cs k)).toInt < 128 := by
  have h0 : 0 ≤ (f3 cs k).toInt ∧ (f3 cs k).toInt < 8 := by
    unfold f3
    generalize ((cs.toUInt64 >>> (((3 : Int32) * k) &&& 0x3f).toInt64.toUInt64).toInt64) = w
    have h1 := c_maskL w 7 3 (by decide) (by decide)
    have h2 : (w &&& 7).toInt = w.toInt % 8 := by simpa using h1
    have h4 := c_l2i (w &&& 7)
    have h5 := rng32 (w &&& 7).toInt32
    omega
  generalize f3 cs k = s at h0
  unfold f1
  have l1 : (48 : Int32).toInt = 48 := rfl
  have l2 : (65 : Int32).toInt = 65 := rfl
  split
  · have := c_iadd 48 s; have := rng32 (48 + s); have := c_i2c (48 + s); omega
  · have := c_iadd 65 s; have := rng32 (65 + s); have := c_i2c (65 + s); omega
theorem own_hc (cs : Int64) : ∀ i, i < 18 → 0 ≤ (own_chars cs i).toInt ∧ (own_chars cs i).toInt < 128 := by
  intro i hi
  have : i = 0 ∨ i = 1 ∨ i = 2 ∨ i = 3 ∨ i = 4 ∨ i = 5 ∨ i = 6 ∨ i = 7 ∨ i = 8 ∨ i = 9 ∨ i = 10 ∨ i = 11 ∨ i = 12 ∨ i = 13 ∨ i = 14 ∨ i = 15 ∨ i = 16 ∨ i = 17 := by omega
  rcases this with rfl | rfl | rfl | rfl | rfl | rfl | rfl | rfl | rfl | rfl | rfl | rfl | rfl | rfl | rfl | rfl | rfl | rfl <;> exact own_f1b cs _
def own_run (vals cs : Int64) (r f t : Int32) : Nat → Int32
  | 0 => own_r r
  | k + 1 => if own_fn f ≤ k ∧ k < own_tn f t then f6 (own_run vals cs r f t k) (own_u (own_vals vals) (own_chars cs) k) else own_run vals cs r f t k
theorem own_runS (vals cs : Int64) (r f t i : Int32) (k : Nat) (hi : i.toInt = (k : Int)) (hk : k < 18) : f5 (own_run vals cs r f t k) i (own_f f) (own_t f t) (own_u (own_vals vals) (own_chars cs) k) = own_run vals cs r f t (k + 1) := by
  have h1 := own_hf f
  have h2 := own_ht f t
  show _ = if own_fn f ≤ k ∧ k < own_tn f t then _ else _
  unfold f5
  by_cases q1 : i < own_f f
  · rw [if_pos q1]; rw [Int32.lt_iff_toInt_lt] at q1; rw [if_neg (by omega)]
  · rw [if_neg q1]; rw [Int32.lt_iff_toInt_lt] at q1
    by_cases q2 : i < own_t f t
    · rw [if_pos q2]; rw [Int32.lt_iff_toInt_lt] at q2; rw [if_pos (by omega)]
    · rw [if_neg q2]; rw [Int32.lt_iff_toInt_lt] at q2; rw [if_neg (by omega)]
theorem own_foldS (u : Nat → Int32) : ∀ (k : Nat) (r : Int32) (i : Nat), own_fold u r i (k + 1) = f6 (own_fold u r i k) (u (i + k))
  | 0, r, i => rfl
  | k + 1, r, i => by
    show own_fold u (f6 r (u i)) (i + 1) (k + 1) = f6 (own_fold u (f6 r (u i)) (i + 1) k) (u (i + (k + 1)))
    rw [own_foldS u k, show i + 1 + k = i + (k + 1) by omega]
theorem own_runE (vals cs : Int64) (r f t : Int32) : ∀ n, own_run vals cs r f t n = own_fold (own_u (own_vals vals) (own_chars cs)) (own_r r) (own_fn f) (min n (own_tn f t) - own_fn f)
  | 0 => by rw [show min 0 (own_tn f t) - own_fn f = 0 by omega]; rfl
  | n + 1 => by
    show (if own_fn f ≤ n ∧ n < own_tn f t then _ else _) = _
    rw [own_runE vals cs r f t n]
    by_cases q : own_fn f ≤ n ∧ n < own_tn f t
    · rw [if_pos q, show min (n + 1) (own_tn f t) - own_fn f = (min n (own_tn f t) - own_fn f) + 1 by omega, own_foldS, show own_fn f + (min n (own_tn f t) - own_fn f) = n by omega]
    · rw [if_neg q, show min (n + 1) (own_tn f t) - own_fn f = min n (own_tn f t) - own_fn f by omega]
theorem own_fin (vals cs : Int64) (r f t : Int32) : own_fold (own_u (own_vals vals) (own_chars cs)) (own_r r) (own_fn f) (own_tn f t - own_fn f) = own_run vals cs r f t 18 := by
  have := own_h18 f t
  rw [own_runE, show min 18 (own_tn f t) = own_tn f t by omega]

theorem own_pd4 : parseMethodDescriptor "([BI[CII)I" = some ⟨[(.array .byte), .int, (.array .char), .int, .int], some .int⟩ := by decide +kernel
theorem own_pd5 : parseMethodDescriptor "(I[B[CIII)I" = some ⟨[.int, (.array .byte), (.array .char), .int, .int, .int], some .int⟩ := by decide +kernel
theorem ef_rm0 (m_ : MethodId) (vals : Int64) (cs : Int64) (r : Int32) (f : Int32) (t : Int32) : entryFrame m_ #[(.long vals), (.long cs), (.int r), (.int f), (.int t)] maxLocals = mkF m_ 0 #[.val (.long vals), .second, .val (.long cs), .second, .val (.int r), .val (.int f), .val (.int t), .unset, .unset, .unset, .unset, .unset, .unset, .unset] [] := by first | (simp [entryFrame, mkF, argsToLocals, Value.category, maxLocals]; done) | rfl
set_option maxRecDepth 65536 in
set_option maxHeartbeats 40000000 in
theorem rm0 (l : Launch) (Z : State) (a0 : Array Value) (hw : ∀ d ∈ tables_1, d.before a0 Z = true) (vals : Int64) (cs : Int64) (r : Int32) (f : Int32) (t : Int32) (h0 : Heap) (n0 : Nat) (Z0 : n0 ≤ h0.size)  :
    own_Met l Z x code maxLocals ret room_1 #[(.long vals), (.long cs), (.int r), (.int f), (.int t)] h0 (fun v h L => v = some (.int 1) ∧ Fr n0 L) := by
  refine own_body #[.val (.long vals), .second, .val (.long cs), .second, .val (.int r), .val (.int f), .val (.int t), .unset, .unset, .unset, .unset, .unset, .unset, .unset] (plainFor_of_name own_pn0) (fun m_ => ef_rm0 m_ vals cs r f t) ?_
  intro p_ e_ s_ m_ below meth c_ s₁ X0 hx hby hml hret hlk hZ hown hnm e0
  have N0 := Fr.nil n0
  show own_Out p_ e_ below s_ _ _ _ s₁ (mkF m_ 0 #[.val (.long vals), .second, .val (.long cs), .second, .val (.int r), .val (.int f), .val (.int t), .unset, .unset, .unset, .unset, .unset, .unset, .unset] [])
  refine own_st s₁ (mkF m_ 3 #[.val (.long vals), .second, .val (.long cs), .second, .val (.int r), .val (.int f), .val (.int t), .unset, .unset, .unset, .unset, .unset, .unset, .unset] [(.int (128 : Int32))]) (fun t_ k_ => ?_) ?_
  · refine XS.sipush X0.here hx rfl (hb hby at_0) ?_
    show Steps p_.tables e_ below (s₁.setTop (mkF m_ 3 #[.val (.long vals), .second, .val (.long cs), .second, .val (.int r), .val (.int f), .val (.int t), .unset, .unset, .unset, .unset, .unset, .unset, .unset] [(.int (128 : Int32))])) t_
    exact k_
  obtain ⟨T1, h1, k1, X1, e1, E1, A1, st1⟩ := newP X0 hx hZ (hw _ (List.mem_of_getElem? (i := 0) rfl)) e0 (g := (mkF m_ 3 #[.val (.long vals), .second, .val (.long cs), .second, .val (.int r), .val (.int f), .val (.int t), .unset, .unset, .unset, .unset, .unset, .unset, .unset] [(.int (128 : Int32))])) rfl (hb hby at_3) rfl (by decide) (cap := 128) (by decide) (by decide) (by decide) (by decide)
  obtain ⟨b1, g1⟩ : ∃ z, z = h0.size := ⟨_, rfl⟩
  rw [← g1] at A1 st1
  have g_b1 : n0 ≤ b1 := g1 ▸ Z0
  replace Z0 : n0 ≤ h1.size := Nat.le_trans Z0 E1.1
  have A_b1 : own_A Z h1 b1 k1 .byte 128 (fun _ => .int 0) := own_A.newI A1 (by decide) 128 (by decide) rfl
  refine own_st T1 (mkF m_ 5 #[.val (.long vals), .second, .val (.long cs), .second, .val (.int r), .val (.int f), .val (.int t), .unset, .unset, .unset, .unset, .unset, .unset, .unset] [(.ref b1)]) st1 ?_
  refine own_st T1 (mkF m_ 10 #[.val (.long vals), .second, .val (.long cs), .second, .val (.int r), .val (.int f), .val (.int t), .val (.ref b1), .unset, .unset, .unset, .unset, .unset, .unset] [(.int (0 : Int32)), (.ref b1)]) (fun t_ k_ => ?_) ?_
  · refine XS.astore X1.here hx rfl (hb hby at_5) rfl rfl (l' := #[.val (.long vals), .second, .val (.long cs), .second, .val (.int r), .val (.int f), .val (.int t), .val (.ref b1), .unset, .unset, .unset, .unset, .unset, .unset]) rfl ?_
    show Steps p_.tables e_ below (T1.setTop (mkF m_ 7 #[.val (.long vals), .second, .val (.long cs), .second, .val (.int r), .val (.int f), .val (.int t), .val (.ref b1), .unset, .unset, .unset, .unset, .unset, .unset] [])) t_
    refine XS.aload X1.here hx rfl (hb hby at_7) rfl rfl ?_
    show Steps p_.tables e_ below (T1.setTop (mkF m_ 9 #[.val (.long vals), .second, .val (.long cs), .second, .val (.int r), .val (.int f), .val (.int t), .val (.ref b1), .unset, .unset, .unset, .unset, .unset, .unset] [(.ref b1)])) t_
    refine XS.iconst X1.here hx rfl (hb hby at_9) ?_
    show Steps p_.tables e_ below (T1.setTop (mkF m_ 10 #[.val (.long vals), .second, .val (.long cs), .second, .val (.int r), .val (.int f), .val (.int t), .val (.ref b1), .unset, .unset, .unset, .unset, .unset, .unset] [(.int (0 : Int32)), (.ref b1)])) t_
    exact k_
  refine own_callS X1 hx hZ hown (hw _ (List.mem_of_getElem? (i := 1) rfl)) (hw _ (List.mem_of_getElem? (i := 2) rfl)) (hw _ (List.mem_of_getElem? (i := 3) rfl)) (hw _ (List.mem_of_getElem? (i := 4) rfl)) (by decide) [(.int (0 : Int32))] [(.ref b1)] (rm1 l Z a0 hw (0 : Int32) h1 n0 Z0) 1 (by decide) (by decide) e1 (by rw [hml]; rfl) (lenOf own_pd1 rfl) rfl (Nat.le_of_eq rfl) (hb hby at_10) (by decide) (by decide) ?_
  intro v2 T2 L2 X2 q2
  obtain ⟨rfl, N2q, e2⟩ := q2
  have N2 := Fr.app N0 N2q
  show own_Out p_ e_ below s_ _ _ _ T2 (mkF m_ 13 #[.val (.long vals), .second, .val (.long cs), .second, .val (.int r), .val (.int f), .val (.int t), .val (.ref b1), .unset, .unset, .unset, .unset, .unset, .unset] [(.int (f1 (0 : Int32))), (.ref b1)])
  refine own_st T2 (mkF m_ 15 #[.val (.long vals), .second, .val (.long cs), .second, .val (.int r), .val (.int f), .val (.int t), .val (.ref b1), .unset, .unset, .unset, .unset, .unset, .unset] [(.int (0 : Int32)), (.long vals), (.int (f1 (0 : Int32))), (.ref b1)]) (fun t_ k_ => ?_) ?_
  · refine XS.lloadN X2.here hx rfl (hb hby at_13) rfl ?_
    show Steps p_.tables e_ below (T2.setTop (mkF m_ 14 #[.val (.long vals), .second, .val (.long cs), .second, .val (.int r), .val (.int f), .val (.int t), .val (.ref b1), .unset, .unset, .unset, .unset, .unset, .unset] [(.long vals), (.int (f1 (0 : Int32))), (.ref b1)])) t_
    refine XS.iconst X2.here hx rfl (hb hby at_14) ?_
    show Steps p_.tables e_ below (T2.setTop (mkF m_ 15 #[.val (.long vals), .second, .val (.long cs), .second, .val (.int r), .val (.int f), .val (.int t), .val (.ref b1), .unset, .unset, .unset, .unset, .unset, .unset] [(.int (0 : Int32)), (.long vals), (.int (f1 (0 : Int32))), (.ref b1)])) t_
    exact k_
  refine own_callS X2 hx hZ hown (hw _ (List.mem_of_getElem? (i := 5) rfl)) (hw _ (List.mem_of_getElem? (i := 6) rfl)) (hw _ (List.mem_of_getElem? (i := 3) rfl)) (hw _ (List.mem_of_getElem? (i := 7) rfl)) (by decide) [(.long vals), (.int (0 : Int32))] [(.int (f1 (0 : Int32))), (.ref b1)] (rm2 l Z a0 hw vals (0 : Int32) h1 n0 Z0) 2 (by decide) (by decide) e2 (by rw [hml]; rfl) (lenOf own_pd2 rfl) rfl (Nat.le_of_eq rfl) (hb hby at_15) (by decide) (by decide) ?_
  intro v3 T3 L3 X3 q3
  obtain ⟨rfl, N3q, e3⟩ := q3
  have N3 := Fr.app N2 N3q
  show own_Out p_ e_ below s_ _ _ _ T3 (mkF m_ 18 #[.val (.long vals), .second, .val (.long cs), .second, .val (.int r), .val (.int f), .val (.int t), .val (.ref b1), .unset, .unset, .unset, .unset, .unset, .unset] [(.int (f2 vals (0 : Int32))), (.int (f1 (0 : Int32))), (.ref b1)])
  obtain ⟨T4, h4, X4, e4, W4, st4⟩ := own_stB X3 hx hZ e3 A_b1 (f2 vals (0 : Int32)) (own_nb _) 48 (by decide) (by decide) (j := (f1 (0 : Int32))) (x := (f2 vals (0 : Int32))) (Ls := #[.val (.long vals), .second, .val (.long cs), .second, .val (.int r), .val (.int f), .val (.int t), .val (.ref b1), .unset, .unset, .unset, .unset, .unset, .unset]) (rest := []) (hb hby at_18)
  have N4 := Fr.snoc X4 N3 g_b1
  replace Z0 : n0 ≤ h4.size := W4.size ▸ Z0
  replace A_b1 : own_A Z h4 b1 k1 .byte 128 (fun x_ => .int (if x_ = 48 then (f2 vals (0 : Int32)) else (0 : Int32))) := A_b1.setI (by decide) W4
  refine own_st T4 (mkF m_ 19 #[.val (.long vals), .second, .val (.long cs), .second, .val (.int r), .val (.int f), .val (.int t), .val (.ref b1), .unset, .unset, .unset, .unset, .unset, .unset] []) st4 ?_
  refine own_st T4 (mkF m_ 22 #[.val (.long vals), .second, .val (.long cs), .second, .val (.int r), .val (.int f), .val (.int t), .val (.ref b1), .unset, .unset, .unset, .unset, .unset, .unset] [(.int (1 : Int32)), (.ref b1)]) (fun t_ k_ => ?_) ?_
  · refine XS.aload X4.here hx rfl (hb hby at_19) rfl rfl ?_
    show Steps p_.tables e_ below (T4.setTop (mkF m_ 21 #[.val (.long vals), .second, .val (.long cs), .second, .val (.int r), .val (.int f), .val (.int t), .val (.ref b1), .unset, .unset, .unset, .unset, .unset, .unset] [(.ref b1)])) t_
    refine XS.iconst X4.here hx rfl (hb hby at_21) ?_
    show Steps p_.tables e_ below (T4.setTop (mkF m_ 22 #[.val (.long vals), .second, .val (.long cs), .second, .val (.int r), .val (.int f), .val (.int t), .val (.ref b1), .unset, .unset, .unset, .unset, .unset, .unset] [(.int (1 : Int32)), (.ref b1)])) t_
    exact k_
  refine own_callS X4 hx hZ hown (hw _ (List.mem_of_getElem? (i := 1) rfl)) (hw _ (List.mem_of_getElem? (i := 2) rfl)) (hw _ (List.mem_of_getElem? (i := 3) rfl)) (hw _ (List.mem_of_getElem? (i := 4) rfl)) (by decide) [(.int (1 : Int32))] [(.ref b1)] (rm1 l Z a0 hw (1 : Int32) h4 n0 Z0) 1 (by decide) (by decide) e4 (by rw [hml]; rfl) (lenOf own_pd1 rfl) rfl (Nat.le_of_eq rfl) (hb hby at_22) (by decide) (by decide) ?_
  intro v5 T5 L5 X5 q5
  obtain ⟨rfl, N5q, e5⟩ := q5
  have N5 := Fr.app N4 N5q
  show own_Out p_ e_ below s_ _ _ _ T5 (mkF m_ 25 #[.val (.long vals), .second, .val (.long cs), .second, .val (.int r), .val (.int f), .val (.int t), .val (.ref b1), .unset, .unset, .unset, .unset, .unset, .unset] [(.int (f1 (1 : Int32))), (.ref b1)])
  refine own_st T5 (mkF m_ 27 #[.val (.long vals), .second, .val (.long cs), .second, .val (.int r), .val (.int f), .val (.int t), .val (.ref b1), .unset, .unset, .unset, .unset, .unset, .unset] [(.int (1 : Int32)), (.long vals), (.int (f1 (1 : Int32))), (.ref b1)]) (fun t_ k_ => ?_) ?_
  · refine XS.lloadN X5.here hx rfl (hb hby at_25) rfl ?_
    show Steps p_.tables e_ below (T5.setTop (mkF m_ 26 #[.val (.long vals), .second, .val (.long cs), .second, .val (.int r), .val (.int f), .val (.int t), .val (.ref b1), .unset, .unset, .unset, .unset, .unset, .unset] [(.long vals), (.int (f1 (1 : Int32))), (.ref b1)])) t_
    refine XS.iconst X5.here hx rfl (hb hby at_26) ?_
    show Steps p_.tables e_ below (T5.setTop (mkF m_ 27 #[.val (.long vals), .second, .val (.long cs), .second, .val (.int r), .val (.int f), .val (.int t), .val (.ref b1), .unset, .unset, .unset, .unset, .unset, .unset] [(.int (1 : Int32)), (.long vals), (.int (f1 (1 : Int32))), (.ref b1)])) t_
    exact k_
  refine own_callS X5 hx hZ hown (hw _ (List.mem_of_getElem? (i := 5) rfl)) (hw _ (List.mem_of_getElem? (i := 6) rfl)) (hw _ (List.mem_of_getElem? (i := 3) rfl)) (hw _ (List.mem_of_getElem? (i := 7) rfl)) (by decide) [(.long vals), (.int (1 : Int32))] [(.int (f1 (1 : Int32))), (.ref b1)] (rm2 l Z a0 hw vals (1 : Int32) h4 n0 Z0) 2 (by decide) (by decide) e5 (by rw [hml]; rfl) (lenOf own_pd2 rfl) rfl (Nat.le_of_eq rfl) (hb hby at_27) (by decide) (by decide) ?_
  intro v6 T6 L6 X6 q6
  obtain ⟨rfl, N6q, e6⟩ := q6
  have N6 := Fr.app N5 N6q
  show own_Out p_ e_ below s_ _ _ _ T6 (mkF m_ 30 #[.val (.long vals), .second, .val (.long cs), .second, .val (.int r), .val (.int f), .val (.int t), .val (.ref b1), .unset, .unset, .unset, .unset, .unset, .unset] [(.int (f2 vals (1 : Int32))), (.int (f1 (1 : Int32))), (.ref b1)])
  obtain ⟨T7, h7, X7, e7, W7, st7⟩ := own_stB X6 hx hZ e6 A_b1 (f2 vals (1 : Int32)) (own_nb _) 49 (by decide) (by decide) (j := (f1 (1 : Int32))) (x := (f2 vals (1 : Int32))) (Ls := #[.val (.long vals), .second, .val (.long cs), .second, .val (.int r), .val (.int f), .val (.int t), .val (.ref b1), .unset, .unset, .unset, .unset, .unset, .unset]) (rest := []) (hb hby at_30)
  have N7 := Fr.snoc X7 N6 g_b1
  replace Z0 : n0 ≤ h7.size := W7.size ▸ Z0
  replace A_b1 : own_A Z h7 b1 k1 .byte 128 (fun x_ => .int (if x_ = 49 then (f2 vals (1 : Int32)) else (if x_ = 48 then (f2 vals (0 : Int32)) else (0 : Int32)))) := A_b1.setI (by decide) W7
  refine own_st T7 (mkF m_ 31 #[.val (.long vals), .second, .val (.long cs), .second, .val (.int r), .val (.int f), .val (.int t), .val (.ref b1), .unset, .unset, .unset, .unset, .unset, .unset] []) st7 ?_
  refine own_st T7 (mkF m_ 34 #[.val (.long vals), .second, .val (.long cs), .second, .val (.int r), .val (.int f), .val (.int t), .val (.ref b1), .unset, .unset, .unset, .unset, .unset, .unset] [(.int (2 : Int32)), (.ref b1)]) (fun t_ k_ => ?_) ?_
  · refine XS.aload X7.here hx rfl (hb hby at_31) rfl rfl ?_
    show Steps p_.tables e_ below (T7.setTop (mkF m_ 33 #[.val (.long vals), .second, .val (.long cs), .second, .val (.int r), .val (.int f), .val (.int t), .val (.ref b1), .unset, .unset, .unset, .unset, .unset, .unset] [(.ref b1)])) t_
    refine XS.iconst X7.here hx rfl (hb hby at_33) ?_
    show Steps p_.tables e_ below (T7.setTop (mkF m_ 34 #[.val (.long vals), .second, .val (.long cs), .second, .val (.int r), .val (.int f), .val (.int t), .val (.ref b1), .unset, .unset, .unset, .unset, .unset, .unset] [(.int (2 : Int32)), (.ref b1)])) t_
    exact k_
  refine own_callS X7 hx hZ hown (hw _ (List.mem_of_getElem? (i := 1) rfl)) (hw _ (List.mem_of_getElem? (i := 2) rfl)) (hw _ (List.mem_of_getElem? (i := 3) rfl)) (hw _ (List.mem_of_getElem? (i := 4) rfl)) (by decide) [(.int (2 : Int32))] [(.ref b1)] (rm1 l Z a0 hw (2 : Int32) h7 n0 Z0) 1 (by decide) (by decide) e7 (by rw [hml]; rfl) (lenOf own_pd1 rfl) rfl (Nat.le_of_eq rfl) (hb hby at_34) (by decide) (by decide) ?_
  intro v8 T8 L8 X8 q8
  obtain ⟨rfl, N8q, e8⟩ := q8
  have N8 := Fr.app N7 N8q
  show own_Out p_ e_ below s_ _ _ _ T8 (mkF m_ 37 #[.val (.long vals), .second, .val (.long cs), .second, .val (.int r), .val (.int f), .val (.int t), .val (.ref b1), .unset, .unset, .unset, .unset, .unset, .unset] [(.int (f1 (2 : Int32))), (.ref b1)])
  refine own_st T8 (mkF m_ 39 #[.val (.long vals), .second, .val (.long cs), .second, .val (.int r), .val (.int f), .val (.int t), .val (.ref b1), .unset, .unset, .unset, .unset, .unset, .unset] [(.int (2 : Int32)), (.long vals), (.int (f1 (2 : Int32))), (.ref b1)]) (fun t_ k_ => ?_) ?_
  · refine XS.lloadN X8.here hx rfl (hb hby at_37) rfl ?_
    show Steps p_.tables e_ below (T8.setTop (mkF m_ 38 #[.val (.long vals), .second, .val (.long cs), .second, .val (.int r), .val (.int f), .val (.int t), .val (.ref b1), .unset, .unset, .unset, .unset, .unset, .unset] [(.long vals), (.int (f1 (2 : Int32))), (.ref b1)])) t_
    refine XS.iconst X8.here hx rfl (hb hby at_38) ?_
    show Steps p_.tables e_ below (T8.setTop (mkF m_ 39 #[.val (.long vals), .second, .val (.long cs), .second, .val (.int r), .val (.int f), .val (.int t), .val (.ref b1), .unset, .unset, .unset, .unset, .unset, .unset] [(.int (2 : Int32)), (.long vals), (.int (f1 (2 : Int32))), (.ref b1)])) t_
    exact k_
  refine own_callS X8 hx hZ hown (hw _ (List.mem_of_getElem? (i := 5) rfl)) (hw _ (List.mem_of_getElem? (i := 6) rfl)) (hw _ (List.mem_of_getElem? (i := 3) rfl)) (hw _ (List.mem_of_getElem? (i := 7) rfl)) (by decide) [(.long vals), (.int (2 : Int32))] [(.int (f1 (2 : Int32))), (.ref b1)] (rm2 l Z a0 hw vals (2 : Int32) h7 n0 Z0) 2 (by decide) (by decide) e8 (by rw [hml]; rfl) (lenOf own_pd2 rfl) rfl (Nat.le_of_eq rfl) (hb hby at_39) (by decide) (by decide) ?_
  intro v9 T9 L9 X9 q9
  obtain ⟨rfl, N9q, e9⟩ := q9
  have N9 := Fr.app N8 N9q
  show own_Out p_ e_ below s_ _ _ _ T9 (mkF m_ 42 #[.val (.long vals), .second, .val (.long cs), .second, .val (.int r), .val (.int f), .val (.int t), .val (.ref b1), .unset, .unset, .unset, .unset, .unset, .unset] [(.int (f2 vals (2 : Int32))), (.int (f1 (2 : Int32))), (.ref b1)])
  obtain ⟨T10, h10, X10, e10, W10, st10⟩ := own_stB X9 hx hZ e9 A_b1 (f2 vals (2 : Int32)) (own_nb _) 50 (by decide) (by decide) (j := (f1 (2 : Int32))) (x := (f2 vals (2 : Int32))) (Ls := #[.val (.long vals), .second, .val (.long cs), .second, .val (.int r), .val (.int f), .val (.int t), .val (.ref b1), .unset, .unset, .unset, .unset, .unset, .unset]) (rest := []) (hb hby at_42)
  have N10 := Fr.snoc X10 N9 g_b1
  replace Z0 : n0 ≤ h10.size := W10.size ▸ Z0
  replace A_b1 : own_A Z h10 b1 k1 .byte 128 (fun x_ => .int (if x_ = 50 then (f2 vals (2 : Int32)) else (if x_ = 49 then (f2 vals (1 : Int32)) else (if x_ = 48 then (f2 vals (0 : Int32)) else (0 : Int32))))) := A_b1.setI (by decide) W10
  refine own_st T10 (mkF m_ 43 #[.val (.long vals), .second, .val (.long cs), .second, .val (.int r), .val (.int f), .val (.int t), .val (.ref b1), .unset, .unset, .unset, .unset, .unset, .unset] []) st10 ?_
  refine own_st T10 (mkF m_ 46 #[.val (.long vals), .second, .val (.long cs), .second, .val (.int r), .val (.int f), .val (.int t), .val (.ref b1), .unset, .unset, .unset, .unset, .unset, .unset] [(.int (3 : Int32)), (.ref b1)]) (fun t_ k_ => ?_) ?_
  · refine XS.aload X10.here hx rfl (hb hby at_43) rfl rfl ?_
    show Steps p_.tables e_ below (T10.setTop (mkF m_ 45 #[.val (.long vals), .second, .val (.long cs), .second, .val (.int r), .val (.int f), .val (.int t), .val (.ref b1), .unset, .unset, .unset, .unset, .unset, .unset] [(.ref b1)])) t_
    refine XS.iconst X10.here hx rfl (hb hby at_45) ?_
    show Steps p_.tables e_ below (T10.setTop (mkF m_ 46 #[.val (.long vals), .second, .val (.long cs), .second, .val (.int r), .val (.int f), .val (.int t), .val (.ref b1), .unset, .unset, .unset, .unset, .unset, .unset] [(.int (3 : Int32)), (.ref b1)])) t_
    exact k_
  refine own_callS X10 hx hZ hown (hw _ (List.mem_of_getElem? (i := 1) rfl)) (hw _ (List.mem_of_getElem? (i := 2) rfl)) (hw _ (List.mem_of_getElem? (i := 3) rfl)) (hw _ (List.mem_of_getElem? (i := 4) rfl)) (by decide) [(.int (3 : Int32))] [(.ref b1)] (rm1 l Z a0 hw (3 : Int32) h10 n0 Z0) 1 (by decide) (by decide) e10 (by rw [hml]; rfl) (lenOf own_pd1 rfl) rfl (Nat.le_of_eq rfl) (hb hby at_46) (by decide) (by decide) ?_
  intro v11 T11 L11 X11 q11
  obtain ⟨rfl, N11q, e11⟩ := q11
  have N11 := Fr.app N10 N11q
  show own_Out p_ e_ below s_ _ _ _ T11 (mkF m_ 49 #[.val (.long vals), .second, .val (.long cs), .second, .val (.int r), .val (.int f), .val (.int t), .val (.ref b1), .unset, .unset, .unset, .unset, .unset, .unset] [(.int (f1 (3 : Int32))), (.ref b1)])
  refine own_st T11 (mkF m_ 51 #[.val (.long vals), .second, .val (.long cs), .second, .val (.int r), .val (.int f), .val (.int t), .val (.ref b1), .unset, .unset, .unset, .unset, .unset, .unset] [(.int (3 : Int32)), (.long vals), (.int (f1 (3 : Int32))), (.ref b1)]) (fun t_ k_ => ?_) ?_
  · refine XS.lloadN X11.here hx rfl (hb hby at_49) rfl ?_
    show Steps p_.tables e_ below (T11.setTop (mkF m_ 50 #[.val (.long vals), .second, .val (.long cs), .second, .val (.int r), .val (.int f), .val (.int t), .val (.ref b1), .unset, .unset, .unset, .unset, .unset, .unset] [(.long vals), (.int (f1 (3 : Int32))), (.ref b1)])) t_
    refine XS.iconst X11.here hx rfl (hb hby at_50) ?_
    show Steps p_.tables e_ below (T11.setTop (mkF m_ 51 #[.val (.long vals), .second, .val (.long cs), .second, .val (.int r), .val (.int f), .val (.int t), .val (.ref b1), .unset, .unset, .unset, .unset, .unset, .unset] [(.int (3 : Int32)), (.long vals), (.int (f1 (3 : Int32))), (.ref b1)])) t_
    exact k_
  refine own_callS X11 hx hZ hown (hw _ (List.mem_of_getElem? (i := 5) rfl)) (hw _ (List.mem_of_getElem? (i := 6) rfl)) (hw _ (List.mem_of_getElem? (i := 3) rfl)) (hw _ (List.mem_of_getElem? (i := 7) rfl)) (by decide) [(.long vals), (.int (3 : Int32))] [(.int (f1 (3 : Int32))), (.ref b1)] (rm2 l Z a0 hw vals (3 : Int32) h10 n0 Z0) 2 (by decide) (by decide) e11 (by rw [hml]; rfl) (lenOf own_pd2 rfl) rfl (Nat.le_of_eq rfl) (hb hby at_51) (by decide) (by decide) ?_
  intro v12 T12 L12 X12 q12
  obtain ⟨rfl, N12q, e12⟩ := q12
  have N12 := Fr.app N11 N12q
  show own_Out p_ e_ below s_ _ _ _ T12 (mkF m_ 54 #[.val (.long vals), .second, .val (.long cs), .second, .val (.int r), .val (.int f), .val (.int t), .val (.ref b1), .unset, .unset, .unset, .unset, .unset, .unset] [(.int (f2 vals (3 : Int32))), (.int (f1 (3 : Int32))), (.ref b1)])
  obtain ⟨T13, h13, X13, e13, W13, st13⟩ := own_stB X12 hx hZ e12 A_b1 (f2 vals (3 : Int32)) (own_nb _) 51 (by decide) (by decide) (j := (f1 (3 : Int32))) (x := (f2 vals (3 : Int32))) (Ls := #[.val (.long vals), .second, .val (.long cs), .second, .val (.int r), .val (.int f), .val (.int t), .val (.ref b1), .unset, .unset, .unset, .unset, .unset, .unset]) (rest := []) (hb hby at_54)
  have N13 := Fr.snoc X13 N12 g_b1
  replace Z0 : n0 ≤ h13.size := W13.size ▸ Z0
  replace A_b1 : own_A Z h13 b1 k1 .byte 128 (fun x_ => .int (if x_ = 51 then (f2 vals (3 : Int32)) else (if x_ = 50 then (f2 vals (2 : Int32)) else (if x_ = 49 then (f2 vals (1 : Int32)) else (if x_ = 48 then (f2 vals (0 : Int32)) else (0 : Int32)))))) := A_b1.setI (by decide) W13
  refine own_st T13 (mkF m_ 55 #[.val (.long vals), .second, .val (.long cs), .second, .val (.int r), .val (.int f), .val (.int t), .val (.ref b1), .unset, .unset, .unset, .unset, .unset, .unset] []) st13 ?_
  refine own_st T13 (mkF m_ 58 #[.val (.long vals), .second, .val (.long cs), .second, .val (.int r), .val (.int f), .val (.int t), .val (.ref b1), .unset, .unset, .unset, .unset, .unset, .unset] [(.int (4 : Int32)), (.ref b1)]) (fun t_ k_ => ?_) ?_
  · refine XS.aload X13.here hx rfl (hb hby at_55) rfl rfl ?_
    show Steps p_.tables e_ below (T13.setTop (mkF m_ 57 #[.val (.long vals), .second, .val (.long cs), .second, .val (.int r), .val (.int f), .val (.int t), .val (.ref b1), .unset, .unset, .unset, .unset, .unset, .unset] [(.ref b1)])) t_
    refine XS.iconst X13.here hx rfl (hb hby at_57) ?_
    show Steps p_.tables e_ below (T13.setTop (mkF m_ 58 #[.val (.long vals), .second, .val (.long cs), .second, .val (.int r), .val (.int f), .val (.int t), .val (.ref b1), .unset, .unset, .unset, .unset, .unset, .unset] [(.int (4 : Int32)), (.ref b1)])) t_
    exact k_
  refine own_callS X13 hx hZ hown (hw _ (List.mem_of_getElem? (i := 1) rfl)) (hw _ (List.mem_of_getElem? (i := 2) rfl)) (hw _ (List.mem_of_getElem? (i := 3) rfl)) (hw _ (List.mem_of_getElem? (i := 4) rfl)) (by decide) [(.int (4 : Int32))] [(.ref b1)] (rm1 l Z a0 hw (4 : Int32) h13 n0 Z0) 1 (by decide) (by decide) e13 (by rw [hml]; rfl) (lenOf own_pd1 rfl) rfl (Nat.le_of_eq rfl) (hb hby at_58) (by decide) (by decide) ?_
  intro v14 T14 L14 X14 q14
  obtain ⟨rfl, N14q, e14⟩ := q14
  have N14 := Fr.app N13 N14q
  show own_Out p_ e_ below s_ _ _ _ T14 (mkF m_ 61 #[.val (.long vals), .second, .val (.long cs), .second, .val (.int r), .val (.int f), .val (.int t), .val (.ref b1), .unset, .unset, .unset, .unset, .unset, .unset] [(.int (f1 (4 : Int32))), (.ref b1)])
  refine own_st T14 (mkF m_ 63 #[.val (.long vals), .second, .val (.long cs), .second, .val (.int r), .val (.int f), .val (.int t), .val (.ref b1), .unset, .unset, .unset, .unset, .unset, .unset] [(.int (4 : Int32)), (.long vals), (.int (f1 (4 : Int32))), (.ref b1)]) (fun t_ k_ => ?_) ?_
  · refine XS.lloadN X14.here hx rfl (hb hby at_61) rfl ?_
    show Steps p_.tables e_ below (T14.setTop (mkF m_ 62 #[.val (.long vals), .second, .val (.long cs), .second, .val (.int r), .val (.int f), .val (.int t), .val (.ref b1), .unset, .unset, .unset, .unset, .unset, .unset] [(.long vals), (.int (f1 (4 : Int32))), (.ref b1)])) t_
    refine XS.iconst X14.here hx rfl (hb hby at_62) ?_
    show Steps p_.tables e_ below (T14.setTop (mkF m_ 63 #[.val (.long vals), .second, .val (.long cs), .second, .val (.int r), .val (.int f), .val (.int t), .val (.ref b1), .unset, .unset, .unset, .unset, .unset, .unset] [(.int (4 : Int32)), (.long vals), (.int (f1 (4 : Int32))), (.ref b1)])) t_
    exact k_
  refine own_callS X14 hx hZ hown (hw _ (List.mem_of_getElem? (i := 5) rfl)) (hw _ (List.mem_of_getElem? (i := 6) rfl)) (hw _ (List.mem_of_getElem? (i := 3) rfl)) (hw _ (List.mem_of_getElem? (i := 7) rfl)) (by decide) [(.long vals), (.int (4 : Int32))] [(.int (f1 (4 : Int32))), (.ref b1)] (rm2 l Z a0 hw vals (4 : Int32) h13 n0 Z0) 2 (by decide) (by decide) e14 (by rw [hml]; rfl) (lenOf own_pd2 rfl) rfl (Nat.le_of_eq rfl) (hb hby at_63) (by decide) (by decide) ?_
  intro v15 T15 L15 X15 q15
  obtain ⟨rfl, N15q, e15⟩ := q15
  have N15 := Fr.app N14 N15q
  show own_Out p_ e_ below s_ _ _ _ T15 (mkF m_ 66 #[.val (.long vals), .second, .val (.long cs), .second, .val (.int r), .val (.int f), .val (.int t), .val (.ref b1), .unset, .unset, .unset, .unset, .unset, .unset] [(.int (f2 vals (4 : Int32))), (.int (f1 (4 : Int32))), (.ref b1)])
  obtain ⟨T16, h16, X16, e16, W16, st16⟩ := own_stB X15 hx hZ e15 A_b1 (f2 vals (4 : Int32)) (own_nb _) 69 (by decide) (by decide) (j := (f1 (4 : Int32))) (x := (f2 vals (4 : Int32))) (Ls := #[.val (.long vals), .second, .val (.long cs), .second, .val (.int r), .val (.int f), .val (.int t), .val (.ref b1), .unset, .unset, .unset, .unset, .unset, .unset]) (rest := []) (hb hby at_66)
  have N16 := Fr.snoc X16 N15 g_b1
  replace Z0 : n0 ≤ h16.size := W16.size ▸ Z0
  replace A_b1 : own_A Z h16 b1 k1 .byte 128 (fun x_ => .int (if x_ = 69 then (f2 vals (4 : Int32)) else (if x_ = 51 then (f2 vals (3 : Int32)) else (if x_ = 50 then (f2 vals (2 : Int32)) else (if x_ = 49 then (f2 vals (1 : Int32)) else (if x_ = 48 then (f2 vals (0 : Int32)) else (0 : Int32))))))) := A_b1.setI (by decide) W16
  refine own_st T16 (mkF m_ 67 #[.val (.long vals), .second, .val (.long cs), .second, .val (.int r), .val (.int f), .val (.int t), .val (.ref b1), .unset, .unset, .unset, .unset, .unset, .unset] []) st16 ?_
  refine own_st T16 (mkF m_ 70 #[.val (.long vals), .second, .val (.long cs), .second, .val (.int r), .val (.int f), .val (.int t), .val (.ref b1), .unset, .unset, .unset, .unset, .unset, .unset] [(.int (5 : Int32)), (.ref b1)]) (fun t_ k_ => ?_) ?_
  · refine XS.aload X16.here hx rfl (hb hby at_67) rfl rfl ?_
    show Steps p_.tables e_ below (T16.setTop (mkF m_ 69 #[.val (.long vals), .second, .val (.long cs), .second, .val (.int r), .val (.int f), .val (.int t), .val (.ref b1), .unset, .unset, .unset, .unset, .unset, .unset] [(.ref b1)])) t_
    refine XS.iconst X16.here hx rfl (hb hby at_69) ?_
    show Steps p_.tables e_ below (T16.setTop (mkF m_ 70 #[.val (.long vals), .second, .val (.long cs), .second, .val (.int r), .val (.int f), .val (.int t), .val (.ref b1), .unset, .unset, .unset, .unset, .unset, .unset] [(.int (5 : Int32)), (.ref b1)])) t_
    exact k_
  refine own_callS X16 hx hZ hown (hw _ (List.mem_of_getElem? (i := 1) rfl)) (hw _ (List.mem_of_getElem? (i := 2) rfl)) (hw _ (List.mem_of_getElem? (i := 3) rfl)) (hw _ (List.mem_of_getElem? (i := 4) rfl)) (by decide) [(.int (5 : Int32))] [(.ref b1)] (rm1 l Z a0 hw (5 : Int32) h16 n0 Z0) 1 (by decide) (by decide) e16 (by rw [hml]; rfl) (lenOf own_pd1 rfl) rfl (Nat.le_of_eq rfl) (hb hby at_70) (by decide) (by decide) ?_
  intro v17 T17 L17 X17 q17
  obtain ⟨rfl, N17q, e17⟩ := q17
  have N17 := Fr.app N16 N17q
  show own_Out p_ e_ below s_ _ _ _ T17 (mkF m_ 73 #[.val (.long vals), .second, .val (.long cs), .second, .val (.int r), .val (.int f), .val (.int t), .val (.ref b1), .unset, .unset, .unset, .unset, .unset, .unset] [(.int (f1 (5 : Int32))), (.ref b1)])
  refine own_st T17 (mkF m_ 75 #[.val (.long vals), .second, .val (.long cs), .second, .val (.int r), .val (.int f), .val (.int t), .val (.ref b1), .unset, .unset, .unset, .unset, .unset, .unset] [(.int (5 : Int32)), (.long vals), (.int (f1 (5 : Int32))), (.ref b1)]) (fun t_ k_ => ?_) ?_
  · refine XS.lloadN X17.here hx rfl (hb hby at_73) rfl ?_
    show Steps p_.tables e_ below (T17.setTop (mkF m_ 74 #[.val (.long vals), .second, .val (.long cs), .second, .val (.int r), .val (.int f), .val (.int t), .val (.ref b1), .unset, .unset, .unset, .unset, .unset, .unset] [(.long vals), (.int (f1 (5 : Int32))), (.ref b1)])) t_
    refine XS.iconst X17.here hx rfl (hb hby at_74) ?_
    show Steps p_.tables e_ below (T17.setTop (mkF m_ 75 #[.val (.long vals), .second, .val (.long cs), .second, .val (.int r), .val (.int f), .val (.int t), .val (.ref b1), .unset, .unset, .unset, .unset, .unset, .unset] [(.int (5 : Int32)), (.long vals), (.int (f1 (5 : Int32))), (.ref b1)])) t_
    exact k_
  refine own_callS X17 hx hZ hown (hw _ (List.mem_of_getElem? (i := 5) rfl)) (hw _ (List.mem_of_getElem? (i := 6) rfl)) (hw _ (List.mem_of_getElem? (i := 3) rfl)) (hw _ (List.mem_of_getElem? (i := 7) rfl)) (by decide) [(.long vals), (.int (5 : Int32))] [(.int (f1 (5 : Int32))), (.ref b1)] (rm2 l Z a0 hw vals (5 : Int32) h16 n0 Z0) 2 (by decide) (by decide) e17 (by rw [hml]; rfl) (lenOf own_pd2 rfl) rfl (Nat.le_of_eq rfl) (hb hby at_75) (by decide) (by decide) ?_
  intro v18 T18 L18 X18 q18
  obtain ⟨rfl, N18q, e18⟩ := q18
  have N18 := Fr.app N17 N18q
  show own_Out p_ e_ below s_ _ _ _ T18 (mkF m_ 78 #[.val (.long vals), .second, .val (.long cs), .second, .val (.int r), .val (.int f), .val (.int t), .val (.ref b1), .unset, .unset, .unset, .unset, .unset, .unset] [(.int (f2 vals (5 : Int32))), (.int (f1 (5 : Int32))), (.ref b1)])
  obtain ⟨T19, h19, X19, e19, W19, st19⟩ := own_stB X18 hx hZ e18 A_b1 (f2 vals (5 : Int32)) (own_nb _) 70 (by decide) (by decide) (j := (f1 (5 : Int32))) (x := (f2 vals (5 : Int32))) (Ls := #[.val (.long vals), .second, .val (.long cs), .second, .val (.int r), .val (.int f), .val (.int t), .val (.ref b1), .unset, .unset, .unset, .unset, .unset, .unset]) (rest := []) (hb hby at_78)
  have N19 := Fr.snoc X19 N18 g_b1
  replace Z0 : n0 ≤ h19.size := W19.size ▸ Z0
  replace A_b1 : own_A Z h19 b1 k1 .byte 128 (fun x_ => .int (if x_ = 70 then (f2 vals (5 : Int32)) else (if x_ = 69 then (f2 vals (4 : Int32)) else (if x_ = 51 then (f2 vals (3 : Int32)) else (if x_ = 50 then (f2 vals (2 : Int32)) else (if x_ = 49 then (f2 vals (1 : Int32)) else (if x_ = 48 then (f2 vals (0 : Int32)) else (0 : Int32)))))))) := A_b1.setI (by decide) W19
  refine own_st T19 (mkF m_ 79 #[.val (.long vals), .second, .val (.long cs), .second, .val (.int r), .val (.int f), .val (.int t), .val (.ref b1), .unset, .unset, .unset, .unset, .unset, .unset] []) st19 ?_
  refine own_st T19 (mkF m_ 83 #[.val (.long vals), .second, .val (.long cs), .second, .val (.int r), .val (.int f), .val (.int t), .val (.ref b1), .unset, .unset, .unset, .unset, .unset, .unset] [(.int (6 : Int32)), (.ref b1)]) (fun t_ k_ => ?_) ?_
  · refine XS.aload X19.here hx rfl (hb hby at_79) rfl rfl ?_
    show Steps p_.tables e_ below (T19.setTop (mkF m_ 81 #[.val (.long vals), .second, .val (.long cs), .second, .val (.int r), .val (.int f), .val (.int t), .val (.ref b1), .unset, .unset, .unset, .unset, .unset, .unset] [(.ref b1)])) t_
    refine XS.bipush X19.here hx rfl (hb hby at_81) ?_
    show Steps p_.tables e_ below (T19.setTop (mkF m_ 83 #[.val (.long vals), .second, .val (.long cs), .second, .val (.int r), .val (.int f), .val (.int t), .val (.ref b1), .unset, .unset, .unset, .unset, .unset, .unset] [(.int (6 : Int32)), (.ref b1)])) t_
    exact k_
  refine own_callS X19 hx hZ hown (hw _ (List.mem_of_getElem? (i := 1) rfl)) (hw _ (List.mem_of_getElem? (i := 2) rfl)) (hw _ (List.mem_of_getElem? (i := 3) rfl)) (hw _ (List.mem_of_getElem? (i := 4) rfl)) (by decide) [(.int (6 : Int32))] [(.ref b1)] (rm1 l Z a0 hw (6 : Int32) h19 n0 Z0) 1 (by decide) (by decide) e19 (by rw [hml]; rfl) (lenOf own_pd1 rfl) rfl (Nat.le_of_eq rfl) (hb hby at_83) (by decide) (by decide) ?_
  intro v20 T20 L20 X20 q20
  obtain ⟨rfl, N20q, e20⟩ := q20
  have N20 := Fr.app N19 N20q
  show own_Out p_ e_ below s_ _ _ _ T20 (mkF m_ 86 #[.val (.long vals), .second, .val (.long cs), .second, .val (.int r), .val (.int f), .val (.int t), .val (.ref b1), .unset, .unset, .unset, .unset, .unset, .unset] [(.int (f1 (6 : Int32))), (.ref b1)])
  refine own_st T20 (mkF m_ 89 #[.val (.long vals), .second, .val (.long cs), .second, .val (.int r), .val (.int f), .val (.int t), .val (.ref b1), .unset, .unset, .unset, .unset, .unset, .unset] [(.int (6 : Int32)), (.long vals), (.int (f1 (6 : Int32))), (.ref b1)]) (fun t_ k_ => ?_) ?_
  · refine XS.lloadN X20.here hx rfl (hb hby at_86) rfl ?_
    show Steps p_.tables e_ below (T20.setTop (mkF m_ 87 #[.val (.long vals), .second, .val (.long cs), .second, .val (.int r), .val (.int f), .val (.int t), .val (.ref b1), .unset, .unset, .unset, .unset, .unset, .unset] [(.long vals), (.int (f1 (6 : Int32))), (.ref b1)])) t_
    refine XS.bipush X20.here hx rfl (hb hby at_87) ?_
    show Steps p_.tables e_ below (T20.setTop (mkF m_ 89 #[.val (.long vals), .second, .val (.long cs), .second, .val (.int r), .val (.int f), .val (.int t), .val (.ref b1), .unset, .unset, .unset, .unset, .unset, .unset] [(.int (6 : Int32)), (.long vals), (.int (f1 (6 : Int32))), (.ref b1)])) t_
    exact k_
  refine own_callS X20 hx hZ hown (hw _ (List.mem_of_getElem? (i := 5) rfl)) (hw _ (List.mem_of_getElem? (i := 6) rfl)) (hw _ (List.mem_of_getElem? (i := 3) rfl)) (hw _ (List.mem_of_getElem? (i := 7) rfl)) (by decide) [(.long vals), (.int (6 : Int32))] [(.int (f1 (6 : Int32))), (.ref b1)] (rm2 l Z a0 hw vals (6 : Int32) h19 n0 Z0) 2 (by decide) (by decide) e20 (by rw [hml]; rfl) (lenOf own_pd2 rfl) rfl (Nat.le_of_eq rfl) (hb hby at_89) (by decide) (by decide) ?_
  intro v21 T21 L21 X21 q21
  obtain ⟨rfl, N21q, e21⟩ := q21
  have N21 := Fr.app N20 N21q
  show own_Out p_ e_ below s_ _ _ _ T21 (mkF m_ 92 #[.val (.long vals), .second, .val (.long cs), .second, .val (.int r), .val (.int f), .val (.int t), .val (.ref b1), .unset, .unset, .unset, .unset, .unset, .unset] [(.int (f2 vals (6 : Int32))), (.int (f1 (6 : Int32))), (.ref b1)])
  obtain ⟨T22, h22, X22, e22, W22, st22⟩ := own_stB X21 hx hZ e21 A_b1 (f2 vals (6 : Int32)) (own_nb _) 71 (by decide) (by decide) (j := (f1 (6 : Int32))) (x := (f2 vals (6 : Int32))) (Ls := #[.val (.long vals), .second, .val (.long cs), .second, .val (.int r), .val (.int f), .val (.int t), .val (.ref b1), .unset, .unset, .unset, .unset, .unset, .unset]) (rest := []) (hb hby at_92)
  have N22 := Fr.snoc X22 N21 g_b1
  replace Z0 : n0 ≤ h22.size := W22.size ▸ Z0
  replace A_b1 : own_A Z h22 b1 k1 .byte 128 (fun x_ => .int (if x_ = 71 then (f2 vals (6 : Int32)) else (if x_ = 70 then (f2 vals (5 : Int32)) else (if x_ = 69 then (f2 vals (4 : Int32)) else (if x_ = 51 then (f2 vals (3 : Int32)) else (if x_ = 50 then (f2 vals (2 : Int32)) else (if x_ = 49 then (f2 vals (1 : Int32)) else (if x_ = 48 then (f2 vals (0 : Int32)) else (0 : Int32))))))))) := A_b1.setI (by decide) W22
  refine own_st T22 (mkF m_ 93 #[.val (.long vals), .second, .val (.long cs), .second, .val (.int r), .val (.int f), .val (.int t), .val (.ref b1), .unset, .unset, .unset, .unset, .unset, .unset] []) st22 ?_
  refine own_st T22 (mkF m_ 97 #[.val (.long vals), .second, .val (.long cs), .second, .val (.int r), .val (.int f), .val (.int t), .val (.ref b1), .unset, .unset, .unset, .unset, .unset, .unset] [(.int (7 : Int32)), (.ref b1)]) (fun t_ k_ => ?_) ?_
  · refine XS.aload X22.here hx rfl (hb hby at_93) rfl rfl ?_
    show Steps p_.tables e_ below (T22.setTop (mkF m_ 95 #[.val (.long vals), .second, .val (.long cs), .second, .val (.int r), .val (.int f), .val (.int t), .val (.ref b1), .unset, .unset, .unset, .unset, .unset, .unset] [(.ref b1)])) t_
    refine XS.bipush X22.here hx rfl (hb hby at_95) ?_
    show Steps p_.tables e_ below (T22.setTop (mkF m_ 97 #[.val (.long vals), .second, .val (.long cs), .second, .val (.int r), .val (.int f), .val (.int t), .val (.ref b1), .unset, .unset, .unset, .unset, .unset, .unset] [(.int (7 : Int32)), (.ref b1)])) t_
    exact k_
  refine own_callS X22 hx hZ hown (hw _ (List.mem_of_getElem? (i := 1) rfl)) (hw _ (List.mem_of_getElem? (i := 2) rfl)) (hw _ (List.mem_of_getElem? (i := 3) rfl)) (hw _ (List.mem_of_getElem? (i := 4) rfl)) (by decide) [(.int (7 : Int32))] [(.ref b1)] (rm1 l Z a0 hw (7 : Int32) h22 n0 Z0) 1 (by decide) (by decide) e22 (by rw [hml]; rfl) (lenOf own_pd1 rfl) rfl (Nat.le_of_eq rfl) (hb hby at_97) (by decide) (by decide) ?_
  intro v23 T23 L23 X23 q23
  obtain ⟨rfl, N23q, e23⟩ := q23
  have N23 := Fr.app N22 N23q
  show own_Out p_ e_ below s_ _ _ _ T23 (mkF m_ 100 #[.val (.long vals), .second, .val (.long cs), .second, .val (.int r), .val (.int f), .val (.int t), .val (.ref b1), .unset, .unset, .unset, .unset, .unset, .unset] [(.int (f1 (7 : Int32))), (.ref b1)])
  refine own_st T23 (mkF m_ 103 #[.val (.long vals), .second, .val (.long cs), .second, .val (.int r), .val (.int f), .val (.int t), .val (.ref b1), .unset, .unset, .unset, .unset, .unset, .unset] [(.int (7 : Int32)), (.long vals), (.int (f1 (7 : Int32))), (.ref b1)]) (fun t_ k_ => ?_) ?_
  · refine XS.lloadN X23.here hx rfl (hb hby at_100) rfl ?_
    show Steps p_.tables e_ below (T23.setTop (mkF m_ 101 #[.val (.long vals), .second, .val (.long cs), .second, .val (.int r), .val (.int f), .val (.int t), .val (.ref b1), .unset, .unset, .unset, .unset, .unset, .unset] [(.long vals), (.int (f1 (7 : Int32))), (.ref b1)])) t_
    refine XS.bipush X23.here hx rfl (hb hby at_101) ?_
    show Steps p_.tables e_ below (T23.setTop (mkF m_ 103 #[.val (.long vals), .second, .val (.long cs), .second, .val (.int r), .val (.int f), .val (.int t), .val (.ref b1), .unset, .unset, .unset, .unset, .unset, .unset] [(.int (7 : Int32)), (.long vals), (.int (f1 (7 : Int32))), (.ref b1)])) t_
    exact k_
  refine own_callS X23 hx hZ hown (hw _ (List.mem_of_getElem? (i := 5) rfl)) (hw _ (List.mem_of_getElem? (i := 6) rfl)) (hw _ (List.mem_of_getElem? (i := 3) rfl)) (hw _ (List.mem_of_getElem? (i := 7) rfl)) (by decide) [(.long vals), (.int (7 : Int32))] [(.int (f1 (7 : Int32))), (.ref b1)] (rm2 l Z a0 hw vals (7 : Int32) h22 n0 Z0) 2 (by decide) (by decide) e23 (by rw [hml]; rfl) (lenOf own_pd2 rfl) rfl (Nat.le_of_eq rfl) (hb hby at_103) (by decide) (by decide) ?_
  intro v24 T24 L24 X24 q24
  obtain ⟨rfl, N24q, e24⟩ := q24
  have N24 := Fr.app N23 N24q
  show own_Out p_ e_ below s_ _ _ _ T24 (mkF m_ 106 #[.val (.long vals), .second, .val (.long cs), .second, .val (.int r), .val (.int f), .val (.int t), .val (.ref b1), .unset, .unset, .unset, .unset, .unset, .unset] [(.int (f2 vals (7 : Int32))), (.int (f1 (7 : Int32))), (.ref b1)])
  obtain ⟨T25, h25, X25, e25, W25, st25⟩ := own_stB X24 hx hZ e24 A_b1 (f2 vals (7 : Int32)) (own_nb _) 72 (by decide) (by decide) (j := (f1 (7 : Int32))) (x := (f2 vals (7 : Int32))) (Ls := #[.val (.long vals), .second, .val (.long cs), .second, .val (.int r), .val (.int f), .val (.int t), .val (.ref b1), .unset, .unset, .unset, .unset, .unset, .unset]) (rest := []) (hb hby at_106)
  have N25 := Fr.snoc X25 N24 g_b1
  replace Z0 : n0 ≤ h25.size := W25.size ▸ Z0
  replace A_b1 : own_A Z h25 b1 k1 .byte 128 (fun x_ => .int (own_vals vals x_)) := A_b1.setI (by decide) W25
  refine own_st T25 (mkF m_ 107 #[.val (.long vals), .second, .val (.long cs), .second, .val (.int r), .val (.int f), .val (.int t), .val (.ref b1), .unset, .unset, .unset, .unset, .unset, .unset] []) st25 ?_
  refine own_st T25 (mkF m_ 109 #[.val (.long vals), .second, .val (.long cs), .second, .val (.int r), .val (.int f), .val (.int t), .val (.ref b1), .unset, .unset, .unset, .unset, .unset, .unset] [(.int (18 : Int32))]) (fun t_ k_ => ?_) ?_
  · refine XS.bipush X25.here hx rfl (hb hby at_107) ?_
    show Steps p_.tables e_ below (T25.setTop (mkF m_ 109 #[.val (.long vals), .second, .val (.long cs), .second, .val (.int r), .val (.int f), .val (.int t), .val (.ref b1), .unset, .unset, .unset, .unset, .unset, .unset] [(.int (18 : Int32))])) t_
    exact k_
  obtain ⟨T26, h26, k26, X26, e26, E26, A26, st26⟩ := newP X25 hx hZ (hw _ (List.mem_of_getElem? (i := 10) rfl)) e25 (g := (mkF m_ 109 #[.val (.long vals), .second, .val (.long cs), .second, .val (.int r), .val (.int f), .val (.int t), .val (.ref b1), .unset, .unset, .unset, .unset, .unset, .unset] [(.int (18 : Int32))])) rfl (hb hby at_109) rfl (by decide) (cap := 18) (by decide) (by decide) (by decide) (by decide)
  obtain ⟨b26, g26⟩ : ∃ z, z = h25.size := ⟨_, rfl⟩
  rw [← g26] at A26 st26
  have g_b26 : n0 ≤ b26 := g26 ▸ Z0
  have ne_b1_b26 : b1 ≠ b26 := Nat.ne_of_lt (Nat.lt_of_lt_of_le A_b1.lt (Nat.le_of_eq g26.symm))
  replace A_b1 := A_b1.ext E26
  replace Z0 : n0 ≤ h26.size := Nat.le_trans Z0 E26.1
  have A_b26 : own_A Z h26 b26 k26 .char 18 (fun x_ => .int (([(0 : Int32), (0 : Int32), (0 : Int32), (0 : Int32), (0 : Int32), (0 : Int32), (0 : Int32), (0 : Int32), (0 : Int32), (0 : Int32), (0 : Int32), (0 : Int32), (0 : Int32), (0 : Int32), (0 : Int32), (0 : Int32), (0 : Int32), (0 : Int32)] : List Int32).getD x_ 0)) := own_A.newLI A26 (by decide) 18 (by decide) rfl
  refine own_st T26 (mkF m_ 111 #[.val (.long vals), .second, .val (.long cs), .second, .val (.int r), .val (.int f), .val (.int t), .val (.ref b1), .unset, .unset, .unset, .unset, .unset, .unset] [(.ref b26)]) st26 ?_
  refine own_st T26 (mkF m_ 118 #[.val (.long vals), .second, .val (.long cs), .second, .val (.int r), .val (.int f), .val (.int t), .val (.ref b1), .val (.ref b26), .unset, .unset, .unset, .unset, .unset] [(.int (0 : Int32)), (.long cs), (.int (0 : Int32)), (.ref b26)]) (fun t_ k_ => ?_) ?_
  · refine XS.astore X26.here hx rfl (hb hby at_111) rfl rfl (l' := #[.val (.long vals), .second, .val (.long cs), .second, .val (.int r), .val (.int f), .val (.int t), .val (.ref b1), .val (.ref b26), .unset, .unset, .unset, .unset, .unset]) rfl ?_
    show Steps p_.tables e_ below (T26.setTop (mkF m_ 113 #[.val (.long vals), .second, .val (.long cs), .second, .val (.int r), .val (.int f), .val (.int t), .val (.ref b1), .val (.ref b26), .unset, .unset, .unset, .unset, .unset] [])) t_
    refine XS.aload X26.here hx rfl (hb hby at_113) rfl rfl ?_
    show Steps p_.tables e_ below (T26.setTop (mkF m_ 115 #[.val (.long vals), .second, .val (.long cs), .second, .val (.int r), .val (.int f), .val (.int t), .val (.ref b1), .val (.ref b26), .unset, .unset, .unset, .unset, .unset] [(.ref b26)])) t_
    refine XS.iconst X26.here hx rfl (hb hby at_115) ?_
    show Steps p_.tables e_ below (T26.setTop (mkF m_ 116 #[.val (.long vals), .second, .val (.long cs), .second, .val (.int r), .val (.int f), .val (.int t), .val (.ref b1), .val (.ref b26), .unset, .unset, .unset, .unset, .unset] [(.int (0 : Int32)), (.ref b26)])) t_
    refine XS.lloadN X26.here hx rfl (hb hby at_116) rfl ?_
    show Steps p_.tables e_ below (T26.setTop (mkF m_ 117 #[.val (.long vals), .second, .val (.long cs), .second, .val (.int r), .val (.int f), .val (.int t), .val (.ref b1), .val (.ref b26), .unset, .unset, .unset, .unset, .unset] [(.long cs), (.int (0 : Int32)), (.ref b26)])) t_
    refine XS.iconst X26.here hx rfl (hb hby at_117) ?_
    show Steps p_.tables e_ below (T26.setTop (mkF m_ 118 #[.val (.long vals), .second, .val (.long cs), .second, .val (.int r), .val (.int f), .val (.int t), .val (.ref b1), .val (.ref b26), .unset, .unset, .unset, .unset, .unset] [(.int (0 : Int32)), (.long cs), (.int (0 : Int32)), (.ref b26)])) t_
    exact k_
  refine own_callS X26 hx hZ hown (hw _ (List.mem_of_getElem? (i := 11) rfl)) (hw _ (List.mem_of_getElem? (i := 12) rfl)) (hw _ (List.mem_of_getElem? (i := 3) rfl)) (hw _ (List.mem_of_getElem? (i := 13) rfl)) (by decide) [(.long cs), (.int (0 : Int32))] [(.int (0 : Int32)), (.ref b26)] (rm3 l Z a0 hw cs (0 : Int32) h26 n0 Z0) 2 (by decide) (by decide) e26 (by rw [hml]; rfl) (lenOf own_pd3 rfl) rfl (Nat.le_of_eq rfl) (hb hby at_118) (by decide) (by decide) ?_
  intro v27 T27 L27 X27 q27
  obtain ⟨rfl, N27q, e27⟩ := q27
  have N27 := Fr.app N25 N27q
  show own_Out p_ e_ below s_ _ _ _ T27 (mkF m_ 121 #[.val (.long vals), .second, .val (.long cs), .second, .val (.int r), .val (.int f), .val (.int t), .val (.ref b1), .val (.ref b26), .unset, .unset, .unset, .unset, .unset] [(.int (f3 cs (0 : Int32))), (.int (0 : Int32)), (.ref b26)])
  refine own_callS X27 hx hZ hown (hw _ (List.mem_of_getElem? (i := 1) rfl)) (hw _ (List.mem_of_getElem? (i := 2) rfl)) (hw _ (List.mem_of_getElem? (i := 3) rfl)) (hw _ (List.mem_of_getElem? (i := 4) rfl)) (by decide) [(.int (f3 cs (0 : Int32)))] [(.int (0 : Int32)), (.ref b26)] (rm1 l Z a0 hw (f3 cs (0 : Int32)) h26 n0 Z0) 2 (by decide) (by decide) e27 (by rw [hml]; rfl) (lenOf own_pd1 rfl) rfl (Nat.le_of_eq rfl) (hb hby at_121) (by decide) (by decide) ?_
  intro v28 T28 L28 X28 q28
  obtain ⟨rfl, N28q, e28⟩ := q28
  have N28 := Fr.app N27 N28q
  show own_Out p_ e_ below s_ _ _ _ T28 (mkF m_ 124 #[.val (.long vals), .second, .val (.long cs), .second, .val (.int r), .val (.int f), .val (.int t), .val (.ref b1), .val (.ref b26), .unset, .unset, .unset, .unset, .unset] [(.int (f1 (f3 cs (0 : Int32)))), (.int (0 : Int32)), (.ref b26)])
  obtain ⟨T29, h29, X29, e29, W29, st29⟩ := own_stC X28 hx hZ e28 A_b26 (f1 (f3 cs (0 : Int32))) (own_ncf _) 0 (by decide) (by decide) (j := (0 : Int32)) (x := (f1 (f3 cs (0 : Int32)))) (Ls := #[.val (.long vals), .second, .val (.long cs), .second, .val (.int r), .val (.int f), .val (.int t), .val (.ref b1), .val (.ref b26), .unset, .unset, .unset, .unset, .unset]) (rest := []) (hb hby at_124)
  have N29 := Fr.snoc X29 N28 g_b26
  replace Z0 : n0 ≤ h29.size := W29.size ▸ Z0
  replace A_b1 := A_b1.other W29 ne_b1_b26
  replace A_b26 : own_A Z h29 b26 k26 .char 18 (fun x_ => .int (([(f1 (f3 cs (0 : Int32))), (0 : Int32), (0 : Int32), (0 : Int32), (0 : Int32), (0 : Int32), (0 : Int32), (0 : Int32), (0 : Int32), (0 : Int32), (0 : Int32), (0 : Int32), (0 : Int32), (0 : Int32), (0 : Int32), (0 : Int32), (0 : Int32), (0 : Int32)] : List Int32).getD x_ 0)) := A_b26.setLI (by decide) (Nat.le_of_ble_eq_true rfl) W29
  refine own_st T29 (mkF m_ 125 #[.val (.long vals), .second, .val (.long cs), .second, .val (.int r), .val (.int f), .val (.int t), .val (.ref b1), .val (.ref b26), .unset, .unset, .unset, .unset, .unset] []) st29 ?_
  refine own_st T29 (mkF m_ 130 #[.val (.long vals), .second, .val (.long cs), .second, .val (.int r), .val (.int f), .val (.int t), .val (.ref b1), .val (.ref b26), .unset, .unset, .unset, .unset, .unset] [(.int (1 : Int32)), (.long cs), (.int (1 : Int32)), (.ref b26)]) (fun t_ k_ => ?_) ?_
  · refine XS.aload X29.here hx rfl (hb hby at_125) rfl rfl ?_
    show Steps p_.tables e_ below (T29.setTop (mkF m_ 127 #[.val (.long vals), .second, .val (.long cs), .second, .val (.int r), .val (.int f), .val (.int t), .val (.ref b1), .val (.ref b26), .unset, .unset, .unset, .unset, .unset] [(.ref b26)])) t_
    refine XS.iconst X29.here hx rfl (hb hby at_127) ?_
    show Steps p_.tables e_ below (T29.setTop (mkF m_ 128 #[.val (.long vals), .second, .val (.long cs), .second, .val (.int r), .val (.int f), .val (.int t), .val (.ref b1), .val (.ref b26), .unset, .unset, .unset, .unset, .unset] [(.int (1 : Int32)), (.ref b26)])) t_
    refine XS.lloadN X29.here hx rfl (hb hby at_128) rfl ?_
    show Steps p_.tables e_ below (T29.setTop (mkF m_ 129 #[.val (.long vals), .second, .val (.long cs), .second, .val (.int r), .val (.int f), .val (.int t), .val (.ref b1), .val (.ref b26), .unset, .unset, .unset, .unset, .unset] [(.long cs), (.int (1 : Int32)), (.ref b26)])) t_
    refine XS.iconst X29.here hx rfl (hb hby at_129) ?_
    show Steps p_.tables e_ below (T29.setTop (mkF m_ 130 #[.val (.long vals), .second, .val (.long cs), .second, .val (.int r), .val (.int f), .val (.int t), .val (.ref b1), .val (.ref b26), .unset, .unset, .unset, .unset, .unset] [(.int (1 : Int32)), (.long cs), (.int (1 : Int32)), (.ref b26)])) t_
    exact k_
  refine own_callS X29 hx hZ hown (hw _ (List.mem_of_getElem? (i := 11) rfl)) (hw _ (List.mem_of_getElem? (i := 12) rfl)) (hw _ (List.mem_of_getElem? (i := 3) rfl)) (hw _ (List.mem_of_getElem? (i := 13) rfl)) (by decide) [(.long cs), (.int (1 : Int32))] [(.int (1 : Int32)), (.ref b26)] (rm3 l Z a0 hw cs (1 : Int32) h29 n0 Z0) 2 (by decide) (by decide) e29 (by rw [hml]; rfl) (lenOf own_pd3 rfl) rfl (Nat.le_of_eq rfl) (hb hby at_130) (by decide) (by decide) ?_
  intro v30 T30 L30 X30 q30
  obtain ⟨rfl, N30q, e30⟩ := q30
  have N30 := Fr.app N29 N30q
  show own_Out p_ e_ below s_ _ _ _ T30 (mkF m_ 133 #[.val (.long vals), .second, .val (.long cs), .second, .val (.int r), .val (.int f), .val (.int t), .val (.ref b1), .val (.ref b26), .unset, .unset, .unset, .unset, .unset] [(.int (f3 cs (1 : Int32))), (.int (1 : Int32)), (.ref b26)])
  refine own_callS X30 hx hZ hown (hw _ (List.mem_of_getElem? (i := 1) rfl)) (hw _ (List.mem_of_getElem? (i := 2) rfl)) (hw _ (List.mem_of_getElem? (i := 3) rfl)) (hw _ (List.mem_of_getElem? (i := 4) rfl)) (by decide) [(.int (f3 cs (1 : Int32)))] [(.int (1 : Int32)), (.ref b26)] (rm1 l Z a0 hw (f3 cs (1 : Int32)) h29 n0 Z0) 2 (by decide) (by decide) e30 (by rw [hml]; rfl) (lenOf own_pd1 rfl) rfl (Nat.le_of_eq rfl) (hb hby at_133) (by decide) (by decide) ?_
  intro v31 T31 L31 X31 q31
  obtain ⟨rfl, N31q, e31⟩ := q31
  have N31 := Fr.app N30 N31q
  show own_Out p_ e_ below s_ _ _ _ T31 (mkF m_ 136 #[.val (.long vals), .second, .val (.long cs), .second, .val (.int r), .val (.int f), .val (.int t), .val (.ref b1), .val (.ref b26), .unset, .unset, .unset, .unset, .unset] [(.int (f1 (f3 cs (1 : Int32)))), (.int (1 : Int32)), (.ref b26)])
  obtain ⟨T32, h32, X32, e32, W32, st32⟩ := own_stC X31 hx hZ e31 A_b26 (f1 (f3 cs (1 : Int32))) (own_ncf _) 1 (by decide) (by decide) (j := (1 : Int32)) (x := (f1 (f3 cs (1 : Int32)))) (Ls := #[.val (.long vals), .second, .val (.long cs), .second, .val (.int r), .val (.int f), .val (.int t), .val (.ref b1), .val (.ref b26), .unset, .unset, .unset, .unset, .unset]) (rest := []) (hb hby at_136)
  have N32 := Fr.snoc X32 N31 g_b26
  replace Z0 : n0 ≤ h32.size := W32.size ▸ Z0
  replace A_b1 := A_b1.other W32 ne_b1_b26
  replace A_b26 : own_A Z h32 b26 k26 .char 18 (fun x_ => .int (([(f1 (f3 cs (0 : Int32))), (f1 (f3 cs (1 : Int32))), (0 : Int32), (0 : Int32), (0 : Int32), (0 : Int32), (0 : Int32), (0 : Int32), (0 : Int32), (0 : Int32), (0 : Int32), (0 : Int32), (0 : Int32), (0 : Int32), (0 : Int32), (0 : Int32), (0 : Int32), (0 : Int32)] : List Int32).getD x_ 0)) := A_b26.setLI (by decide) (Nat.le_of_ble_eq_true rfl) W32
  refine own_st T32 (mkF m_ 137 #[.val (.long vals), .second, .val (.long cs), .second, .val (.int r), .val (.int f), .val (.int t), .val (.ref b1), .val (.ref b26), .unset, .unset, .unset, .unset, .unset] []) st32 ?_
  refine own_st T32 (mkF m_ 142 #[.val (.long vals), .second, .val (.long cs), .second, .val (.int r), .val (.int f), .val (.int t), .val (.ref b1), .val (.ref b26), .unset, .unset, .unset, .unset, .unset] [(.int (2 : Int32)), (.long cs), (.int (2 : Int32)), (.ref b26)]) (fun t_ k_ => ?_) ?_
  · refine XS.aload X32.here hx rfl (hb hby at_137) rfl rfl ?_
    show Steps p_.tables e_ below (T32.setTop (mkF m_ 139 #[.val (.long vals), .second, .val (.long cs), .second, .val (.int r), .val (.int f), .val (.int t), .val (.ref b1), .val (.ref b26), .unset, .unset, .unset, .unset, .unset] [(.ref b26)])) t_
    refine XS.iconst X32.here hx rfl (hb hby at_139) ?_
    show Steps p_.tables e_ below (T32.setTop (mkF m_ 140 #[.val (.long vals), .second, .val (.long cs), .second, .val (.int r), .val (.int f), .val (.int t), .val (.ref b1), .val (.ref b26), .unset, .unset, .unset, .unset, .unset] [(.int (2 : Int32)), (.ref b26)])) t_
    refine XS.lloadN X32.here hx rfl (hb hby at_140) rfl ?_
    show Steps p_.tables e_ below (T32.setTop (mkF m_ 141 #[.val (.long vals), .second, .val (.long cs), .second, .val (.int r), .val (.int f), .val (.int t), .val (.ref b1), .val (.ref b26), .unset, .unset, .unset, .unset, .unset] [(.long cs), (.int (2 : Int32)), (.ref b26)])) t_
    refine XS.iconst X32.here hx rfl (hb hby at_141) ?_
    show Steps p_.tables e_ below (T32.setTop (mkF m_ 142 #[.val (.long vals), .second, .val (.long cs), .second, .val (.int r), .val (.int f), .val (.int t), .val (.ref b1), .val (.ref b26), .unset, .unset, .unset, .unset, .unset] [(.int (2 : Int32)), (.long cs), (.int (2 : Int32)), (.ref b26)])) t_
    exact k_
  refine own_callS X32 hx hZ hown (hw _ (List.mem_of_getElem? (i := 11) rfl)) (hw _ (List.mem_of_getElem? (i := 12) rfl)) (hw _ (List.mem_of_getElem? (i := 3) rfl)) (hw _ (List.mem_of_getElem? (i := 13) rfl)) (by decide) [(.long cs), (.int (2 : Int32))] [(.int (2 : Int32)), (.ref b26)] (rm3 l Z a0 hw cs (2 : Int32) h32 n0 Z0) 2 (by decide) (by decide) e32 (by rw [hml]; rfl) (lenOf own_pd3 rfl) rfl (Nat.le_of_eq rfl) (hb hby at_142) (by decide) (by decide) ?_
  intro v33 T33 L33 X33 q33
  obtain ⟨rfl, N33q, e33⟩ := q33
  have N33 := Fr.app N32 N33q
  show own_Out p_ e_ below s_ _ _ _ T33 (mkF m_ 145 #[.val (.long vals), .second, .val (.long cs), .second, .val (.int r), .val (.int f), .val (.int t), .val (.ref b1), .val (.ref b26), .unset, .unset, .unset, .unset, .unset] [(.int (f3 cs (2 : Int32))), (.int (2 : Int32)), (.ref b26)])
  refine own_callS X33 hx hZ hown (hw _ (List.mem_of_getElem? (i := 1) rfl)) (hw _ (List.mem_of_getElem? (i := 2) rfl)) (hw _ (List.mem_of_getElem? (i := 3) rfl)) (hw _ (List.mem_of_getElem? (i := 4) rfl)) (by decide) [(.int (f3 cs (2 : Int32)))] [(.int (2 : Int32)), (.ref b26)] (rm1 l Z a0 hw (f3 cs (2 : Int32)) h32 n0 Z0) 2 (by decide) (by decide) e33 (by rw [hml]; rfl) (lenOf own_pd1 rfl) rfl (Nat.le_of_eq rfl) (hb hby at_145) (by decide) (by decide) ?_
  intro v34 T34 L34 X34 q34
  obtain ⟨rfl, N34q, e34⟩ := q34
  have N34 := Fr.app N33 N34q
  show own_Out p_ e_ below s_ _ _ _ T34 (mkF m_ 148 #[.val (.long vals), .second, .val (.long cs), .second, .val (.int r), .val (.int f), .val (.int t), .val (.ref b1), .val (.ref b26), .unset, .unset, .unset, .unset, .unset] [(.int (f1 (f3 cs (2 : Int32)))), (.int (2 : Int32)), (.ref b26)])
  obtain ⟨T35, h35, X35, e35, W35, st35⟩ := own_stC X34 hx hZ e34 A_b26 (f1 (f3 cs (2 : Int32))) (own_ncf _) 2 (by decide) (by decide) (j := (2 : Int32)) (x := (f1 (f3 cs (2 : Int32)))) (Ls := #[.val (.long vals), .second, .val (.long cs), .second, .val (.int r), .val (.int f), .val (.int t), .val (.ref b1), .val (.ref b26), .unset, .unset, .unset, .unset, .unset]) (rest := []) (hb hby at_148)
  have N35 := Fr.snoc X35 N34 g_b26
  replace Z0 : n0 ≤ h35.size := W35.size ▸ Z0
  replace A_b1 := A_b1.other W35 ne_b1_b26
  replace A_b26 : own_A Z h35 b26 k26 .char 18 (fun x_ => .int (([(f1 (f3 cs (0 : Int32))), (f1 (f3 cs (1 : Int32))), (f1 (f3 cs (2 : Int32))), (0 : Int32), (0 : Int32), (0 : Int32), (0 : Int32), (0 : Int32), (0 : Int32), (0 : Int32), (0 : Int32), (0 : Int32), (0 : Int32), (0 : Int32), (0 : Int32), (0 : Int32), (0 : Int32), (0 : Int32)] : List Int32).getD x_ 0)) := A_b26.setLI (by decide) (Nat.le_of_ble_eq_true rfl) W35
  refine own_st T35 (mkF m_ 149 #[.val (.long vals), .second, .val (.long cs), .second, .val (.int r), .val (.int f), .val (.int t), .val (.ref b1), .val (.ref b26), .unset, .unset, .unset, .unset, .unset] []) st35 ?_
  refine own_st T35 (mkF m_ 154 #[.val (.long vals), .second, .val (.long cs), .second, .val (.int r), .val (.int f), .val (.int t), .val (.ref b1), .val (.ref b26), .unset, .unset, .unset, .unset, .unset] [(.int (3 : Int32)), (.long cs), (.int (3 : Int32)), (.ref b26)]) (fun t_ k_ => ?_) ?_
  · refine XS.aload X35.here hx rfl (hb hby at_149) rfl rfl ?_
    show Steps p_.tables e_ below (T35.setTop (mkF m_ 151 #[.val (.long vals), .second, .val (.long cs), .second, .val (.int r), .val (.int f), .val (.int t), .val (.ref b1), .val (.ref b26), .unset, .unset, .unset, .unset, .unset] [(.ref b26)])) t_
    refine XS.iconst X35.here hx rfl (hb hby at_151) ?_
    show Steps p_.tables e_ below (T35.setTop (mkF m_ 152 #[.val (.long vals), .second, .val (.long cs), .second, .val (.int r), .val (.int f), .val (.int t), .val (.ref b1), .val (.ref b26), .unset, .unset, .unset, .unset, .unset] [(.int (3 : Int32)), (.ref b26)])) t_
    refine XS.lloadN X35.here hx rfl (hb hby at_152) rfl ?_
    show Steps p_.tables e_ below (T35.setTop (mkF m_ 153 #[.val (.long vals), .second, .val (.long cs), .second, .val (.int r), .val (.int f), .val (.int t), .val (.ref b1), .val (.ref b26), .unset, .unset, .unset, .unset, .unset] [(.long cs), (.int (3 : Int32)), (.ref b26)])) t_
    refine XS.iconst X35.here hx rfl (hb hby at_153) ?_
    show Steps p_.tables e_ below (T35.setTop (mkF m_ 154 #[.val (.long vals), .second, .val (.long cs), .second, .val (.int r), .val (.int f), .val (.int t), .val (.ref b1), .val (.ref b26), .unset, .unset, .unset, .unset, .unset] [(.int (3 : Int32)), (.long cs), (.int (3 : Int32)), (.ref b26)])) t_
    exact k_
  refine own_callS X35 hx hZ hown (hw _ (List.mem_of_getElem? (i := 11) rfl)) (hw _ (List.mem_of_getElem? (i := 12) rfl)) (hw _ (List.mem_of_getElem? (i := 3) rfl)) (hw _ (List.mem_of_getElem? (i := 13) rfl)) (by decide) [(.long cs), (.int (3 : Int32))] [(.int (3 : Int32)), (.ref b26)] (rm3 l Z a0 hw cs (3 : Int32) h35 n0 Z0) 2 (by decide) (by decide) e35 (by rw [hml]; rfl) (lenOf own_pd3 rfl) rfl (Nat.le_of_eq rfl) (hb hby at_154) (by decide) (by decide) ?_
  intro v36 T36 L36 X36 q36
  obtain ⟨rfl, N36q, e36⟩ := q36
  have N36 := Fr.app N35 N36q
  show own_Out p_ e_ below s_ _ _ _ T36 (mkF m_ 157 #[.val (.long vals), .second, .val (.long cs), .second, .val (.int r), .val (.int f), .val (.int t), .val (.ref b1), .val (.ref b26), .unset, .unset, .unset, .unset, .unset] [(.int (f3 cs (3 : Int32))), (.int (3 : Int32)), (.ref b26)])
  refine own_callS X36 hx hZ hown (hw _ (List.mem_of_getElem? (i := 1) rfl)) (hw _ (List.mem_of_getElem? (i := 2) rfl)) (hw _ (List.mem_of_getElem? (i := 3) rfl)) (hw _ (List.mem_of_getElem? (i := 4) rfl)) (by decide) [(.int (f3 cs (3 : Int32)))] [(.int (3 : Int32)), (.ref b26)] (rm1 l Z a0 hw (f3 cs (3 : Int32)) h35 n0 Z0) 2 (by decide) (by decide) e36 (by rw [hml]; rfl) (lenOf own_pd1 rfl) rfl (Nat.le_of_eq rfl) (hb hby at_157) (by decide) (by decide) ?_
  intro v37 T37 L37 X37 q37
  obtain ⟨rfl, N37q, e37⟩ := q37
  have N37 := Fr.app N36 N37q
  show own_Out p_ e_ below s_ _ _ _ T37 (mkF m_ 160 #[.val (.long vals), .second, .val (.long cs), .second, .val (.int r), .val (.int f), .val (.int t), .val (.ref b1), .val (.ref b26), .unset, .unset, .unset, .unset, .unset] [(.int (f1 (f3 cs (3 : Int32)))), (.int (3 : Int32)), (.ref b26)])
  obtain ⟨T38, h38, X38, e38, W38, st38⟩ := own_stC X37 hx hZ e37 A_b26 (f1 (f3 cs (3 : Int32))) (own_ncf _) 3 (by decide) (by decide) (j := (3 : Int32)) (x := (f1 (f3 cs (3 : Int32)))) (Ls := #[.val (.long vals), .second, .val (.long cs), .second, .val (.int r), .val (.int f), .val (.int t), .val (.ref b1), .val (.ref b26), .unset, .unset, .unset, .unset, .unset]) (rest := []) (hb hby at_160)
  have N38 := Fr.snoc X38 N37 g_b26
  replace Z0 : n0 ≤ h38.size := W38.size ▸ Z0
  replace A_b1 := A_b1.other W38 ne_b1_b26
  replace A_b26 : own_A Z h38 b26 k26 .char 18 (fun x_ => .int (([(f1 (f3 cs (0 : Int32))), (f1 (f3 cs (1 : Int32))), (f1 (f3 cs (2 : Int32))), (f1 (f3 cs (3 : Int32))), (0 : Int32), (0 : Int32), (0 : Int32), (0 : Int32), (0 : Int32), (0 : Int32), (0 : Int32), (0 : Int32), (0 : Int32), (0 : Int32), (0 : Int32), (0 : Int32), (0 : Int32), (0 : Int32)] : List Int32).getD x_ 0)) := A_b26.setLI (by decide) (Nat.le_of_ble_eq_true rfl) W38
  refine own_st T38 (mkF m_ 161 #[.val (.long vals), .second, .val (.long cs), .second, .val (.int r), .val (.int f), .val (.int t), .val (.ref b1), .val (.ref b26), .unset, .unset, .unset, .unset, .unset] []) st38 ?_
  refine own_st T38 (mkF m_ 166 #[.val (.long vals), .second, .val (.long cs), .second, .val (.int r), .val (.int f), .val (.int t), .val (.ref b1), .val (.ref b26), .unset, .unset, .unset, .unset, .unset] [(.int (4 : Int32)), (.long cs), (.int (4 : Int32)), (.ref b26)]) (fun t_ k_ => ?_) ?_
  · refine XS.aload X38.here hx rfl (hb hby at_161) rfl rfl ?_
    show Steps p_.tables e_ below (T38.setTop (mkF m_ 163 #[.val (.long vals), .second, .val (.long cs), .second, .val (.int r), .val (.int f), .val (.int t), .val (.ref b1), .val (.ref b26), .unset, .unset, .unset, .unset, .unset] [(.ref b26)])) t_
    refine XS.iconst X38.here hx rfl (hb hby at_163) ?_
    show Steps p_.tables e_ below (T38.setTop (mkF m_ 164 #[.val (.long vals), .second, .val (.long cs), .second, .val (.int r), .val (.int f), .val (.int t), .val (.ref b1), .val (.ref b26), .unset, .unset, .unset, .unset, .unset] [(.int (4 : Int32)), (.ref b26)])) t_
    refine XS.lloadN X38.here hx rfl (hb hby at_164) rfl ?_
    show Steps p_.tables e_ below (T38.setTop (mkF m_ 165 #[.val (.long vals), .second, .val (.long cs), .second, .val (.int r), .val (.int f), .val (.int t), .val (.ref b1), .val (.ref b26), .unset, .unset, .unset, .unset, .unset] [(.long cs), (.int (4 : Int32)), (.ref b26)])) t_
    refine XS.iconst X38.here hx rfl (hb hby at_165) ?_
    show Steps p_.tables e_ below (T38.setTop (mkF m_ 166 #[.val (.long vals), .second, .val (.long cs), .second, .val (.int r), .val (.int f), .val (.int t), .val (.ref b1), .val (.ref b26), .unset, .unset, .unset, .unset, .unset] [(.int (4 : Int32)), (.long cs), (.int (4 : Int32)), (.ref b26)])) t_
    exact k_
  refine own_callS X38 hx hZ hown (hw _ (List.mem_of_getElem? (i := 11) rfl)) (hw _ (List.mem_of_getElem? (i := 12) rfl)) (hw _ (List.mem_of_getElem? (i := 3) rfl)) (hw _ (List.mem_of_getElem? (i := 13) rfl)) (by decide) [(.long cs), (.int (4 : Int32))] [(.int (4 : Int32)), (.ref b26)] (rm3 l Z a0 hw cs (4 : Int32) h38 n0 Z0) 2 (by decide) (by decide) e38 (by rw [hml]; rfl) (lenOf own_pd3 rfl) rfl (Nat.le_of_eq rfl) (hb hby at_166) (by decide) (by decide) ?_
  intro v39 T39 L39 X39 q39
  obtain ⟨rfl, N39q, e39⟩ := q39
  have N39 := Fr.app N38 N39q
  show own_Out p_ e_ below s_ _ _ _ T39 (mkF m_ 169 #[.val (.long vals), .second, .val (.long cs), .second, .val (.int r), .val (.int f), .val (.int t), .val (.ref b1), .val (.ref b26), .unset, .unset, .unset, .unset, .unset] [(.int (f3 cs (4 : Int32))), (.int (4 : Int32)), (.ref b26)])
  refine own_callS X39 hx hZ hown (hw _ (List.mem_of_getElem? (i := 1) rfl)) (hw _ (List.mem_of_getElem? (i := 2) rfl)) (hw _ (List.mem_of_getElem? (i := 3) rfl)) (hw _ (List.mem_of_getElem? (i := 4) rfl)) (by decide) [(.int (f3 cs (4 : Int32)))] [(.int (4 : Int32)), (.ref b26)] (rm1 l Z a0 hw (f3 cs (4 : Int32)) h38 n0 Z0) 2 (by decide) (by decide) e39 (by rw [hml]; rfl) (lenOf own_pd1 rfl) rfl (Nat.le_of_eq rfl) (hb hby at_169) (by decide) (by decide) ?_
  intro v40 T40 L40 X40 q40
  obtain ⟨rfl, N40q, e40⟩ := q40
  have N40 := Fr.app N39 N40q
  show own_Out p_ e_ below s_ _ _ _ T40 (mkF m_ 172 #[.val (.long vals), .second, .val (.long cs), .second, .val (.int r), .val (.int f), .val (.int t), .val (.ref b1), .val (.ref b26), .unset, .unset, .unset, .unset, .unset] [(.int (f1 (f3 cs (4 : Int32)))), (.int (4 : Int32)), (.ref b26)])
  obtain ⟨T41, h41, X41, e41, W41, st41⟩ := own_stC X40 hx hZ e40 A_b26 (f1 (f3 cs (4 : Int32))) (own_ncf _) 4 (by decide) (by decide) (j := (4 : Int32)) (x := (f1 (f3 cs (4 : Int32)))) (Ls := #[.val (.long vals), .second, .val (.long cs), .second, .val (.int r), .val (.int f), .val (.int t), .val (.ref b1), .val (.ref b26), .unset, .unset, .unset, .unset, .unset]) (rest := []) (hb hby at_172)
  have N41 := Fr.snoc X41 N40 g_b26
  replace Z0 : n0 ≤ h41.size := W41.size ▸ Z0
  replace A_b1 := A_b1.other W41 ne_b1_b26
  replace A_b26 : own_A Z h41 b26 k26 .char 18 (fun x_ => .int (([(f1 (f3 cs (0 : Int32))), (f1 (f3 cs (1 : Int32))), (f1 (f3 cs (2 : Int32))), (f1 (f3 cs (3 : Int32))), (f1 (f3 cs (4 : Int32))), (0 : Int32), (0 : Int32), (0 : Int32), (0 : Int32), (0 : Int32), (0 : Int32), (0 : Int32), (0 : Int32), (0 : Int32), (0 : Int32), (0 : Int32), (0 : Int32), (0 : Int32)] : List Int32).getD x_ 0)) := A_b26.setLI (by decide) (Nat.le_of_ble_eq_true rfl) W41
  refine own_st T41 (mkF m_ 173 #[.val (.long vals), .second, .val (.long cs), .second, .val (.int r), .val (.int f), .val (.int t), .val (.ref b1), .val (.ref b26), .unset, .unset, .unset, .unset, .unset] []) st41 ?_
  refine own_st T41 (mkF m_ 178 #[.val (.long vals), .second, .val (.long cs), .second, .val (.int r), .val (.int f), .val (.int t), .val (.ref b1), .val (.ref b26), .unset, .unset, .unset, .unset, .unset] [(.int (5 : Int32)), (.long cs), (.int (5 : Int32)), (.ref b26)]) (fun t_ k_ => ?_) ?_
  · refine XS.aload X41.here hx rfl (hb hby at_173) rfl rfl ?_
    show Steps p_.tables e_ below (T41.setTop (mkF m_ 175 #[.val (.long vals), .second, .val (.long cs), .second, .val (.int r), .val (.int f), .val (.int t), .val (.ref b1), .val (.ref b26), .unset, .unset, .unset, .unset, .unset] [(.ref b26)])) t_
    refine XS.iconst X41.here hx rfl (hb hby at_175) ?_
    show Steps p_.tables e_ below (T41.setTop (mkF m_ 176 #[.val (.long vals), .second, .val (.long cs), .second, .val (.int r), .val (.int f), .val (.int t), .val (.ref b1), .val (.ref b26), .unset, .unset, .unset, .unset, .unset] [(.int (5 : Int32)), (.ref b26)])) t_
    refine XS.lloadN X41.here hx rfl (hb hby at_176) rfl ?_
    show Steps p_.tables e_ below (T41.setTop (mkF m_ 177 #[.val (.long vals), .second, .val (.long cs), .second, .val (.int r), .val (.int f), .val (.int t), .val (.ref b1), .val (.ref b26), .unset, .unset, .unset, .unset, .unset] [(.long cs), (.int (5 : Int32)), (.ref b26)])) t_
    refine XS.iconst X41.here hx rfl (hb hby at_177) ?_
    show Steps p_.tables e_ below (T41.setTop (mkF m_ 178 #[.val (.long vals), .second, .val (.long cs), .second, .val (.int r), .val (.int f), .val (.int t), .val (.ref b1), .val (.ref b26), .unset, .unset, .unset, .unset, .unset] [(.int (5 : Int32)), (.long cs), (.int (5 : Int32)), (.ref b26)])) t_
    exact k_
  refine own_callS X41 hx hZ hown (hw _ (List.mem_of_getElem? (i := 11) rfl)) (hw _ (List.mem_of_getElem? (i := 12) rfl)) (hw _ (List.mem_of_getElem? (i := 3) rfl)) (hw _ (List.mem_of_getElem? (i := 13) rfl)) (by decide) [(.long cs), (.int (5 : Int32))] [(.int (5 : Int32)), (.ref b26)] (rm3 l Z a0 hw cs (5 : Int32) h41 n0 Z0) 2 (by decide) (by decide) e41 (by rw [hml]; rfl) (lenOf own_pd3 rfl) rfl (Nat.le_of_eq rfl) (hb hby at_178) (by decide) (by decide) ?_
  intro v42 T42 L42 X42 q42
  obtain ⟨rfl, N42q, e42⟩ := q42
  have N42 := Fr.app N41 N42q
  show own_Out p_ e_ below s_ _ _ _ T42 (mkF m_ 181 #[.val (.long vals), .second, .val (.long cs), .second, .val (.int r), .val (.int f), .val (.int t), .val (.ref b1), .val (.ref b26), .unset, .unset, .unset, .unset, .unset] [(.int (f3 cs (5 : Int32))), (.int (5 : Int32)), (.ref b26)])
  refine own_callS X42 hx hZ hown (hw _ (List.mem_of_getElem? (i := 1) rfl)) (hw _ (List.mem_of_getElem? (i := 2) rfl)) (hw _ (List.mem_of_getElem? (i := 3) rfl)) (hw _ (List.mem_of_getElem? (i := 4) rfl)) (by decide) [(.int (f3 cs (5 : Int32)))] [(.int (5 : Int32)), (.ref b26)] (rm1 l Z a0 hw (f3 cs (5 : Int32)) h41 n0 Z0) 2 (by decide) (by decide) e42 (by rw [hml]; rfl) (lenOf own_pd1 rfl) rfl (Nat.le_of_eq rfl) (hb hby at_181) (by decide) (by decide) ?_
  intro v43 T43 L43 X43 q43
  obtain ⟨rfl, N43q, e43⟩ := q43
  have N43 := Fr.app N42 N43q
  show own_Out p_ e_ below s_ _ _ _ T43 (mkF m_ 184 #[.val (.long vals), .second, .val (.long cs), .second, .val (.int r), .val (.int f), .val (.int t), .val (.ref b1), .val (.ref b26), .unset, .unset, .unset, .unset, .unset] [(.int (f1 (f3 cs (5 : Int32)))), (.int (5 : Int32)), (.ref b26)])
  obtain ⟨T44, h44, X44, e44, W44, st44⟩ := own_stC X43 hx hZ e43 A_b26 (f1 (f3 cs (5 : Int32))) (own_ncf _) 5 (by decide) (by decide) (j := (5 : Int32)) (x := (f1 (f3 cs (5 : Int32)))) (Ls := #[.val (.long vals), .second, .val (.long cs), .second, .val (.int r), .val (.int f), .val (.int t), .val (.ref b1), .val (.ref b26), .unset, .unset, .unset, .unset, .unset]) (rest := []) (hb hby at_184)
  have N44 := Fr.snoc X44 N43 g_b26
  replace Z0 : n0 ≤ h44.size := W44.size ▸ Z0
  replace A_b1 := A_b1.other W44 ne_b1_b26
  replace A_b26 : own_A Z h44 b26 k26 .char 18 (fun x_ => .int (([(f1 (f3 cs (0 : Int32))), (f1 (f3 cs (1 : Int32))), (f1 (f3 cs (2 : Int32))), (f1 (f3 cs (3 : Int32))), (f1 (f3 cs (4 : Int32))), (f1 (f3 cs (5 : Int32))), (0 : Int32), (0 : Int32), (0 : Int32), (0 : Int32), (0 : Int32), (0 : Int32), (0 : Int32), (0 : Int32), (0 : Int32), (0 : Int32), (0 : Int32), (0 : Int32)] : List Int32).getD x_ 0)) := A_b26.setLI (by decide) (Nat.le_of_ble_eq_true rfl) W44
  refine own_st T44 (mkF m_ 185 #[.val (.long vals), .second, .val (.long cs), .second, .val (.int r), .val (.int f), .val (.int t), .val (.ref b1), .val (.ref b26), .unset, .unset, .unset, .unset, .unset] []) st44 ?_
  refine own_st T44 (mkF m_ 192 #[.val (.long vals), .second, .val (.long cs), .second, .val (.int r), .val (.int f), .val (.int t), .val (.ref b1), .val (.ref b26), .unset, .unset, .unset, .unset, .unset] [(.int (6 : Int32)), (.long cs), (.int (6 : Int32)), (.ref b26)]) (fun t_ k_ => ?_) ?_
  · refine XS.aload X44.here hx rfl (hb hby at_185) rfl rfl ?_
    show Steps p_.tables e_ below (T44.setTop (mkF m_ 187 #[.val (.long vals), .second, .val (.long cs), .second, .val (.int r), .val (.int f), .val (.int t), .val (.ref b1), .val (.ref b26), .unset, .unset, .unset, .unset, .unset] [(.ref b26)])) t_
    refine XS.bipush X44.here hx rfl (hb hby at_187) ?_
    show Steps p_.tables e_ below (T44.setTop (mkF m_ 189 #[.val (.long vals), .second, .val (.long cs), .second, .val (.int r), .val (.int f), .val (.int t), .val (.ref b1), .val (.ref b26), .unset, .unset, .unset, .unset, .unset] [(.int (6 : Int32)), (.ref b26)])) t_
    refine XS.lloadN X44.here hx rfl (hb hby at_189) rfl ?_
    show Steps p_.tables e_ below (T44.setTop (mkF m_ 190 #[.val (.long vals), .second, .val (.long cs), .second, .val (.int r), .val (.int f), .val (.int t), .val (.ref b1), .val (.ref b26), .unset, .unset, .unset, .unset, .unset] [(.long cs), (.int (6 : Int32)), (.ref b26)])) t_
    refine XS.bipush X44.here hx rfl (hb hby at_190) ?_
    show Steps p_.tables e_ below (T44.setTop (mkF m_ 192 #[.val (.long vals), .second, .val (.long cs), .second, .val (.int r), .val (.int f), .val (.int t), .val (.ref b1), .val (.ref b26), .unset, .unset, .unset, .unset, .unset] [(.int (6 : Int32)), (.long cs), (.int (6 : Int32)), (.ref b26)])) t_
    exact k_
  refine own_callS X44 hx hZ hown (hw _ (List.mem_of_getElem? (i := 11) rfl)) (hw _ (List.mem_of_getElem? (i := 12) rfl)) (hw _ (List.mem_of_getElem? (i := 3) rfl)) (hw _ (List.mem_of_getElem? (i := 13) rfl)) (by decide) [(.long cs), (.int (6 : Int32))] [(.int (6 : Int32)), (.ref b26)] (rm3 l Z a0 hw cs (6 : Int32) h44 n0 Z0) 2 (by decide) (by decide) e44 (by rw [hml]; rfl) (lenOf own_pd3 rfl) rfl (Nat.le_of_eq rfl) (hb hby at_192) (by decide) (by decide) ?_
  intro v45 T45 L45 X45 q45
  obtain ⟨rfl, N45q, e45⟩ := q45
  have N45 := Fr.app N44 N45q
  show own_Out p_ e_ below s_ _ _ _ T45 (mkF m_ 195 #[.val (.long vals), .second, .val (.long cs), .second, .val (.int r), .val (.int f), .val (.int t), .val (.ref b1), .val (.ref b26), .unset, .unset, .unset, .unset, .unset] [(.int (f3 cs (6 : Int32))), (.int (6 : Int32)), (.ref b26)])
  refine own_callS X45 hx hZ hown (hw _ (List.mem_of_getElem? (i := 1) rfl)) (hw _ (List.mem_of_getElem? (i := 2) rfl)) (hw _ (List.mem_of_getElem? (i := 3) rfl)) (hw _ (List.mem_of_getElem? (i := 4) rfl)) (by decide) [(.int (f3 cs (6 : Int32)))] [(.int (6 : Int32)), (.ref b26)] (rm1 l Z a0 hw (f3 cs (6 : Int32)) h44 n0 Z0) 2 (by decide) (by decide) e45 (by rw [hml]; rfl) (lenOf own_pd1 rfl) rfl (Nat.le_of_eq rfl) (hb hby at_195) (by decide) (by decide) ?_
  intro v46 T46 L46 X46 q46
  obtain ⟨rfl, N46q, e46⟩ := q46
  have N46 := Fr.app N45 N46q
  show own_Out p_ e_ below s_ _ _ _ T46 (mkF m_ 198 #[.val (.long vals), .second, .val (.long cs), .second, .val (.int r), .val (.int f), .val (.int t), .val (.ref b1), .val (.ref b26), .unset, .unset, .unset, .unset, .unset] [(.int (f1 (f3 cs (6 : Int32)))), (.int (6 : Int32)), (.ref b26)])
  obtain ⟨T47, h47, X47, e47, W47, st47⟩ := own_stC X46 hx hZ e46 A_b26 (f1 (f3 cs (6 : Int32))) (own_ncf _) 6 (by decide) (by decide) (j := (6 : Int32)) (x := (f1 (f3 cs (6 : Int32)))) (Ls := #[.val (.long vals), .second, .val (.long cs), .second, .val (.int r), .val (.int f), .val (.int t), .val (.ref b1), .val (.ref b26), .unset, .unset, .unset, .unset, .unset]) (rest := []) (hb hby at_198)
  have N47 := Fr.snoc X47 N46 g_b26
  replace Z0 : n0 ≤ h47.size := W47.size ▸ Z0
  replace A_b1 := A_b1.other W47 ne_b1_b26
  replace A_b26 : own_A Z h47 b26 k26 .char 18 (fun x_ => .int (([(f1 (f3 cs (0 : Int32))), (f1 (f3 cs (1 : Int32))), (f1 (f3 cs (2 : Int32))), (f1 (f3 cs (3 : Int32))), (f1 (f3 cs (4 : Int32))), (f1 (f3 cs (5 : Int32))), (f1 (f3 cs (6 : Int32))), (0 : Int32), (0 : Int32), (0 : Int32), (0 : Int32), (0 : Int32), (0 : Int32), (0 : Int32), (0 : Int32), (0 : Int32), (0 : Int32), (0 : Int32)] : List Int32).getD x_ 0)) := A_b26.setLI (by decide) (Nat.le_of_ble_eq_true rfl) W47
  refine own_st T47 (mkF m_ 199 #[.val (.long vals), .second, .val (.long cs), .second, .val (.int r), .val (.int f), .val (.int t), .val (.ref b1), .val (.ref b26), .unset, .unset, .unset, .unset, .unset] []) st47 ?_
  refine own_st T47 (mkF m_ 206 #[.val (.long vals), .second, .val (.long cs), .second, .val (.int r), .val (.int f), .val (.int t), .val (.ref b1), .val (.ref b26), .unset, .unset, .unset, .unset, .unset] [(.int (7 : Int32)), (.long cs), (.int (7 : Int32)), (.ref b26)]) (fun t_ k_ => ?_) ?_
  · refine XS.aload X47.here hx rfl (hb hby at_199) rfl rfl ?_
    show Steps p_.tables e_ below (T47.setTop (mkF m_ 201 #[.val (.long vals), .second, .val (.long cs), .second, .val (.int r), .val (.int f), .val (.int t), .val (.ref b1), .val (.ref b26), .unset, .unset, .unset, .unset, .unset] [(.ref b26)])) t_
    refine XS.bipush X47.here hx rfl (hb hby at_201) ?_
    show Steps p_.tables e_ below (T47.setTop (mkF m_ 203 #[.val (.long vals), .second, .val (.long cs), .second, .val (.int r), .val (.int f), .val (.int t), .val (.ref b1), .val (.ref b26), .unset, .unset, .unset, .unset, .unset] [(.int (7 : Int32)), (.ref b26)])) t_
    refine XS.lloadN X47.here hx rfl (hb hby at_203) rfl ?_
    show Steps p_.tables e_ below (T47.setTop (mkF m_ 204 #[.val (.long vals), .second, .val (.long cs), .second, .val (.int r), .val (.int f), .val (.int t), .val (.ref b1), .val (.ref b26), .unset, .unset, .unset, .unset, .unset] [(.long cs), (.int (7 : Int32)), (.ref b26)])) t_
    refine XS.bipush X47.here hx rfl (hb hby at_204) ?_
    show Steps p_.tables e_ below (T47.setTop (mkF m_ 206 #[.val (.long vals), .second, .val (.long cs), .second, .val (.int r), .val (.int f), .val (.int t), .val (.ref b1), .val (.ref b26), .unset, .unset, .unset, .unset, .unset] [(.int (7 : Int32)), (.long cs), (.int (7 : Int32)), (.ref b26)])) t_
    exact k_
  refine own_callS X47 hx hZ hown (hw _ (List.mem_of_getElem? (i := 11) rfl)) (hw _ (List.mem_of_getElem? (i := 12) rfl)) (hw _ (List.mem_of_getElem? (i := 3) rfl)) (hw _ (List.mem_of_getElem? (i := 13) rfl)) (by decide) [(.long cs), (.int (7 : Int32))] [(.int (7 : Int32)), (.ref b26)] (rm3 l Z a0 hw cs (7 : Int32) h47 n0 Z0) 2 (by decide) (by decide) e47 (by rw [hml]; rfl) (lenOf own_pd3 rfl) rfl (Nat.le_of_eq rfl) (hb hby at_206) (by decide) (by decide) ?_
  intro v48 T48 L48 X48 q48
  obtain ⟨rfl, N48q, e48⟩ := q48
  have N48 := Fr.app N47 N48q
  show own_Out p_ e_ below s_ _ _ _ T48 (mkF m_ 209 #[.val (.long vals), .second, .val (.long cs), .second, .val (.int r), .val (.int f), .val (.int t), .val (.ref b1), .val (.ref b26), .unset, .unset, .unset, .unset, .unset] [(.int (f3 cs (7 : Int32))), (.int (7 : Int32)), (.ref b26)])
  refine own_callS X48 hx hZ hown (hw _ (List.mem_of_getElem? (i := 1) rfl)) (hw _ (List.mem_of_getElem? (i := 2) rfl)) (hw _ (List.mem_of_getElem? (i := 3) rfl)) (hw _ (List.mem_of_getElem? (i := 4) rfl)) (by decide) [(.int (f3 cs (7 : Int32)))] [(.int (7 : Int32)), (.ref b26)] (rm1 l Z a0 hw (f3 cs (7 : Int32)) h47 n0 Z0) 2 (by decide) (by decide) e48 (by rw [hml]; rfl) (lenOf own_pd1 rfl) rfl (Nat.le_of_eq rfl) (hb hby at_209) (by decide) (by decide) ?_
  intro v49 T49 L49 X49 q49
  obtain ⟨rfl, N49q, e49⟩ := q49
  have N49 := Fr.app N48 N49q
  show own_Out p_ e_ below s_ _ _ _ T49 (mkF m_ 212 #[.val (.long vals), .second, .val (.long cs), .second, .val (.int r), .val (.int f), .val (.int t), .val (.ref b1), .val (.ref b26), .unset, .unset, .unset, .unset, .unset] [(.int (f1 (f3 cs (7 : Int32)))), (.int (7 : Int32)), (.ref b26)])
  obtain ⟨T50, h50, X50, e50, W50, st50⟩ := own_stC X49 hx hZ e49 A_b26 (f1 (f3 cs (7 : Int32))) (own_ncf _) 7 (by decide) (by decide) (j := (7 : Int32)) (x := (f1 (f3 cs (7 : Int32)))) (Ls := #[.val (.long vals), .second, .val (.long cs), .second, .val (.int r), .val (.int f), .val (.int t), .val (.ref b1), .val (.ref b26), .unset, .unset, .unset, .unset, .unset]) (rest := []) (hb hby at_212)
  have N50 := Fr.snoc X50 N49 g_b26
  replace Z0 : n0 ≤ h50.size := W50.size ▸ Z0
  replace A_b1 := A_b1.other W50 ne_b1_b26
  replace A_b26 : own_A Z h50 b26 k26 .char 18 (fun x_ => .int (([(f1 (f3 cs (0 : Int32))), (f1 (f3 cs (1 : Int32))), (f1 (f3 cs (2 : Int32))), (f1 (f3 cs (3 : Int32))), (f1 (f3 cs (4 : Int32))), (f1 (f3 cs (5 : Int32))), (f1 (f3 cs (6 : Int32))), (f1 (f3 cs (7 : Int32))), (0 : Int32), (0 : Int32), (0 : Int32), (0 : Int32), (0 : Int32), (0 : Int32), (0 : Int32), (0 : Int32), (0 : Int32), (0 : Int32)] : List Int32).getD x_ 0)) := A_b26.setLI (by decide) (Nat.le_of_ble_eq_true rfl) W50
  refine own_st T50 (mkF m_ 213 #[.val (.long vals), .second, .val (.long cs), .second, .val (.int r), .val (.int f), .val (.int t), .val (.ref b1), .val (.ref b26), .unset, .unset, .unset, .unset, .unset] []) st50 ?_
  refine own_st T50 (mkF m_ 220 #[.val (.long vals), .second, .val (.long cs), .second, .val (.int r), .val (.int f), .val (.int t), .val (.ref b1), .val (.ref b26), .unset, .unset, .unset, .unset, .unset] [(.int (8 : Int32)), (.long cs), (.int (8 : Int32)), (.ref b26)]) (fun t_ k_ => ?_) ?_
  · refine XS.aload X50.here hx rfl (hb hby at_213) rfl rfl ?_
    show Steps p_.tables e_ below (T50.setTop (mkF m_ 215 #[.val (.long vals), .second, .val (.long cs), .second, .val (.int r), .val (.int f), .val (.int t), .val (.ref b1), .val (.ref b26), .unset, .unset, .unset, .unset, .unset] [(.ref b26)])) t_
    refine XS.bipush X50.here hx rfl (hb hby at_215) ?_
    show Steps p_.tables e_ below (T50.setTop (mkF m_ 217 #[.val (.long vals), .second, .val (.long cs), .second, .val (.int r), .val (.int f), .val (.int t), .val (.ref b1), .val (.ref b26), .unset, .unset, .unset, .unset, .unset] [(.int (8 : Int32)), (.ref b26)])) t_
    refine XS.lloadN X50.here hx rfl (hb hby at_217) rfl ?_
    show Steps p_.tables e_ below (T50.setTop (mkF m_ 218 #[.val (.long vals), .second, .val (.long cs), .second, .val (.int r), .val (.int f), .val (.int t), .val (.ref b1), .val (.ref b26), .unset, .unset, .unset, .unset, .unset] [(.long cs), (.int (8 : Int32)), (.ref b26)])) t_
    refine XS.bipush X50.here hx rfl (hb hby at_218) ?_
    show Steps p_.tables e_ below (T50.setTop (mkF m_ 220 #[.val (.long vals), .second, .val (.long cs), .second, .val (.int r), .val (.int f), .val (.int t), .val (.ref b1), .val (.ref b26), .unset, .unset, .unset, .unset, .unset] [(.int (8 : Int32)), (.long cs), (.int (8 : Int32)), (.ref b26)])) t_
    exact k_
  refine own_callS X50 hx hZ hown (hw _ (List.mem_of_getElem? (i := 11) rfl)) (hw _ (List.mem_of_getElem? (i := 12) rfl)) (hw _ (List.mem_of_getElem? (i := 3) rfl)) (hw _ (List.mem_of_getElem? (i := 13) rfl)) (by decide) [(.long cs), (.int (8 : Int32))] [(.int (8 : Int32)), (.ref b26)] (rm3 l Z a0 hw cs (8 : Int32) h50 n0 Z0) 2 (by decide) (by decide) e50 (by rw [hml]; rfl) (lenOf own_pd3 rfl) rfl (Nat.le_of_eq rfl) (hb hby at_220) (by decide) (by decide) ?_
  intro v51 T51 L51 X51 q51
  obtain ⟨rfl, N51q, e51⟩ := q51
  have N51 := Fr.app N50 N51q
  show own_Out p_ e_ below s_ _ _ _ T51 (mkF m_ 223 #[.val (.long vals), .second, .val (.long cs), .second, .val (.int r), .val (.int f), .val (.int t), .val (.ref b1), .val (.ref b26), .unset, .unset, .unset, .unset, .unset] [(.int (f3 cs (8 : Int32))), (.int (8 : Int32)), (.ref b26)])
  refine own_callS X51 hx hZ hown (hw _ (List.mem_of_getElem? (i := 1) rfl)) (hw _ (List.mem_of_getElem? (i := 2) rfl)) (hw _ (List.mem_of_getElem? (i := 3) rfl)) (hw _ (List.mem_of_getElem? (i := 4) rfl)) (by decide) [(.int (f3 cs (8 : Int32)))] [(.int (8 : Int32)), (.ref b26)] (rm1 l Z a0 hw (f3 cs (8 : Int32)) h50 n0 Z0) 2 (by decide) (by decide) e51 (by rw [hml]; rfl) (lenOf own_pd1 rfl) rfl (Nat.le_of_eq rfl) (hb hby at_223) (by decide) (by decide) ?_
  intro v52 T52 L52 X52 q52
  obtain ⟨rfl, N52q, e52⟩ := q52
  have N52 := Fr.app N51 N52q
  show own_Out p_ e_ below s_ _ _ _ T52 (mkF m_ 226 #[.val (.long vals), .second, .val (.long cs), .second, .val (.int r), .val (.int f), .val (.int t), .val (.ref b1), .val (.ref b26), .unset, .unset, .unset, .unset, .unset] [(.int (f1 (f3 cs (8 : Int32)))), (.int (8 : Int32)), (.ref b26)])
  obtain ⟨T53, h53, X53, e53, W53, st53⟩ := own_stC X52 hx hZ e52 A_b26 (f1 (f3 cs (8 : Int32))) (own_ncf _) 8 (by decide) (by decide) (j := (8 : Int32)) (x := (f1 (f3 cs (8 : Int32)))) (Ls := #[.val (.long vals), .second, .val (.long cs), .second, .val (.int r), .val (.int f), .val (.int t), .val (.ref b1), .val (.ref b26), .unset, .unset, .unset, .unset, .unset]) (rest := []) (hb hby at_226)
  have N53 := Fr.snoc X53 N52 g_b26
  replace Z0 : n0 ≤ h53.size := W53.size ▸ Z0
  replace A_b1 := A_b1.other W53 ne_b1_b26
  replace A_b26 : own_A Z h53 b26 k26 .char 18 (fun x_ => .int (([(f1 (f3 cs (0 : Int32))), (f1 (f3 cs (1 : Int32))), (f1 (f3 cs (2 : Int32))), (f1 (f3 cs (3 : Int32))), (f1 (f3 cs (4 : Int32))), (f1 (f3 cs (5 : Int32))), (f1 (f3 cs (6 : Int32))), (f1 (f3 cs (7 : Int32))), (f1 (f3 cs (8 : Int32))), (0 : Int32), (0 : Int32), (0 : Int32), (0 : Int32), (0 : Int32), (0 : Int32), (0 : Int32), (0 : Int32), (0 : Int32)] : List Int32).getD x_ 0)) := A_b26.setLI (by decide) (Nat.le_of_ble_eq_true rfl) W53
  refine own_st T53 (mkF m_ 227 #[.val (.long vals), .second, .val (.long cs), .second, .val (.int r), .val (.int f), .val (.int t), .val (.ref b1), .val (.ref b26), .unset, .unset, .unset, .unset, .unset] []) st53 ?_
  refine own_st T53 (mkF m_ 234 #[.val (.long vals), .second, .val (.long cs), .second, .val (.int r), .val (.int f), .val (.int t), .val (.ref b1), .val (.ref b26), .unset, .unset, .unset, .unset, .unset] [(.int (9 : Int32)), (.long cs), (.int (9 : Int32)), (.ref b26)]) (fun t_ k_ => ?_) ?_
  · refine XS.aload X53.here hx rfl (hb hby at_227) rfl rfl ?_
    show Steps p_.tables e_ below (T53.setTop (mkF m_ 229 #[.val (.long vals), .second, .val (.long cs), .second, .val (.int r), .val (.int f), .val (.int t), .val (.ref b1), .val (.ref b26), .unset, .unset, .unset, .unset, .unset] [(.ref b26)])) t_
    refine XS.bipush X53.here hx rfl (hb hby at_229) ?_
    show Steps p_.tables e_ below (T53.setTop (mkF m_ 231 #[.val (.long vals), .second, .val (.long cs), .second, .val (.int r), .val (.int f), .val (.int t), .val (.ref b1), .val (.ref b26), .unset, .unset, .unset, .unset, .unset] [(.int (9 : Int32)), (.ref b26)])) t_
    refine XS.lloadN X53.here hx rfl (hb hby at_231) rfl ?_
    show Steps p_.tables e_ below (T53.setTop (mkF m_ 232 #[.val (.long vals), .second, .val (.long cs), .second, .val (.int r), .val (.int f), .val (.int t), .val (.ref b1), .val (.ref b26), .unset, .unset, .unset, .unset, .unset] [(.long cs), (.int (9 : Int32)), (.ref b26)])) t_
    refine XS.bipush X53.here hx rfl (hb hby at_232) ?_
    show Steps p_.tables e_ below (T53.setTop (mkF m_ 234 #[.val (.long vals), .second, .val (.long cs), .second, .val (.int r), .val (.int f), .val (.int t), .val (.ref b1), .val (.ref b26), .unset, .unset, .unset, .unset, .unset] [(.int (9 : Int32)), (.long cs), (.int (9 : Int32)), (.ref b26)])) t_
    exact k_
  refine own_callS X53 hx hZ hown (hw _ (List.mem_of_getElem? (i := 11) rfl)) (hw _ (List.mem_of_getElem? (i := 12) rfl)) (hw _ (List.mem_of_getElem? (i := 3) rfl)) (hw _ (List.mem_of_getElem? (i := 13) rfl)) (by decide) [(.long cs), (.int (9 : Int32))] [(.int (9 : Int32)), (.ref b26)] (rm3 l Z a0 hw cs (9 : Int32) h53 n0 Z0) 2 (by decide) (by decide) e53 (by rw [hml]; rfl) (lenOf own_pd3 rfl) rfl (Nat.le_of_eq rfl) (hb hby at_234) (by decide) (by decide) ?_
  intro v54 T54 L54 X54 q54
  obtain ⟨rfl, N54q, e54⟩ := q54
  have N54 := Fr.app N53 N54q
  show own_Out p_ e_ below s_ _ _ _ T54 (mkF m_ 237 #[.val (.long vals), .second, .val (.long cs), .second, .val (.int r), .val (.int f), .val (.int t), .val (.ref b1), .val (.ref b26), .unset, .unset, .unset, .unset, .unset] [(.int (f3 cs (9 : Int32))), (.int (9 : Int32)), (.ref b26)])
  refine own_callS X54 hx hZ hown (hw _ (List.mem_of_getElem? (i := 1) rfl)) (hw _ (List.mem_of_getElem? (i := 2) rfl)) (hw _ (List.mem_of_getElem? (i := 3) rfl)) (hw _ (List.mem_of_getElem? (i := 4) rfl)) (by decide) [(.int (f3 cs (9 : Int32)))] [(.int (9 : Int32)), (.ref b26)] (rm1 l Z a0 hw (f3 cs (9 : Int32)) h53 n0 Z0) 2 (by decide) (by decide) e54 (by rw [hml]; rfl) (lenOf own_pd1 rfl) rfl (Nat.le_of_eq rfl) (hb hby at_237) (by decide) (by decide) ?_
  intro v55 T55 L55 X55 q55
  obtain ⟨rfl, N55q, e55⟩ := q55
  have N55 := Fr.app N54 N55q
  show own_Out p_ e_ below s_ _ _ _ T55 (mkF m_ 240 #[.val (.long vals), .second, .val (.long cs), .second, .val (.int r), .val (.int f), .val (.int t), .val (.ref b1), .val (.ref b26), .unset, .unset, .unset, .unset, .unset] [(.int (f1 (f3 cs (9 : Int32)))), (.int (9 : Int32)), (.ref b26)])
  obtain ⟨T56, h56, X56, e56, W56, st56⟩ := own_stC X55 hx hZ e55 A_b26 (f1 (f3 cs (9 : Int32))) (own_ncf _) 9 (by decide) (by decide) (j := (9 : Int32)) (x := (f1 (f3 cs (9 : Int32)))) (Ls := #[.val (.long vals), .second, .val (.long cs), .second, .val (.int r), .val (.int f), .val (.int t), .val (.ref b1), .val (.ref b26), .unset, .unset, .unset, .unset, .unset]) (rest := []) (hb hby at_240)
  have N56 := Fr.snoc X56 N55 g_b26
  replace Z0 : n0 ≤ h56.size := W56.size ▸ Z0
  replace A_b1 := A_b1.other W56 ne_b1_b26
  replace A_b26 : own_A Z h56 b26 k26 .char 18 (fun x_ => .int (([(f1 (f3 cs (0 : Int32))), (f1 (f3 cs (1 : Int32))), (f1 (f3 cs (2 : Int32))), (f1 (f3 cs (3 : Int32))), (f1 (f3 cs (4 : Int32))), (f1 (f3 cs (5 : Int32))), (f1 (f3 cs (6 : Int32))), (f1 (f3 cs (7 : Int32))), (f1 (f3 cs (8 : Int32))), (f1 (f3 cs (9 : Int32))), (0 : Int32), (0 : Int32), (0 : Int32), (0 : Int32), (0 : Int32), (0 : Int32), (0 : Int32), (0 : Int32)] : List Int32).getD x_ 0)) := A_b26.setLI (by decide) (Nat.le_of_ble_eq_true rfl) W56
  refine own_st T56 (mkF m_ 241 #[.val (.long vals), .second, .val (.long cs), .second, .val (.int r), .val (.int f), .val (.int t), .val (.ref b1), .val (.ref b26), .unset, .unset, .unset, .unset, .unset] []) st56 ?_
  refine own_st T56 (mkF m_ 248 #[.val (.long vals), .second, .val (.long cs), .second, .val (.int r), .val (.int f), .val (.int t), .val (.ref b1), .val (.ref b26), .unset, .unset, .unset, .unset, .unset] [(.int (10 : Int32)), (.long cs), (.int (10 : Int32)), (.ref b26)]) (fun t_ k_ => ?_) ?_
  · refine XS.aload X56.here hx rfl (hb hby at_241) rfl rfl ?_
    show Steps p_.tables e_ below (T56.setTop (mkF m_ 243 #[.val (.long vals), .second, .val (.long cs), .second, .val (.int r), .val (.int f), .val (.int t), .val (.ref b1), .val (.ref b26), .unset, .unset, .unset, .unset, .unset] [(.ref b26)])) t_
    refine XS.bipush X56.here hx rfl (hb hby at_243) ?_
    show Steps p_.tables e_ below (T56.setTop (mkF m_ 245 #[.val (.long vals), .second, .val (.long cs), .second, .val (.int r), .val (.int f), .val (.int t), .val (.ref b1), .val (.ref b26), .unset, .unset, .unset, .unset, .unset] [(.int (10 : Int32)), (.ref b26)])) t_
    refine XS.lloadN X56.here hx rfl (hb hby at_245) rfl ?_
    show Steps p_.tables e_ below (T56.setTop (mkF m_ 246 #[.val (.long vals), .second, .val (.long cs), .second, .val (.int r), .val (.int f), .val (.int t), .val (.ref b1), .val (.ref b26), .unset, .unset, .unset, .unset, .unset] [(.long cs), (.int (10 : Int32)), (.ref b26)])) t_
    refine XS.bipush X56.here hx rfl (hb hby at_246) ?_
    show Steps p_.tables e_ below (T56.setTop (mkF m_ 248 #[.val (.long vals), .second, .val (.long cs), .second, .val (.int r), .val (.int f), .val (.int t), .val (.ref b1), .val (.ref b26), .unset, .unset, .unset, .unset, .unset] [(.int (10 : Int32)), (.long cs), (.int (10 : Int32)), (.ref b26)])) t_
    exact k_
  refine own_callS X56 hx hZ hown (hw _ (List.mem_of_getElem? (i := 11) rfl)) (hw _ (List.mem_of_getElem? (i := 12) rfl)) (hw _ (List.mem_of_getElem? (i := 3) rfl)) (hw _ (List.mem_of_getElem? (i := 13) rfl)) (by decide) [(.long cs), (.int (10 : Int32))] [(.int (10 : Int32)), (.ref b26)] (rm3 l Z a0 hw cs (10 : Int32) h56 n0 Z0) 2 (by decide) (by decide) e56 (by rw [hml]; rfl) (lenOf own_pd3 rfl) rfl (Nat.le_of_eq rfl) (hb hby at_248) (by decide) (by decide) ?_
  intro v57 T57 L57 X57 q57
  obtain ⟨rfl, N57q, e57⟩ := q57
  have N57 := Fr.app N56 N57q
  show own_Out p_ e_ below s_ _ _ _ T57 (mkF m_ 251 #[.val (.long vals), .second, .val (.long cs), .second, .val (.int r), .val (.int f), .val (.int t), .val (.ref b1), .val (.ref b26), .unset, .unset, .unset, .unset, .unset] [(.int (f3 cs (10 : Int32))), (.int (10 : Int32)), (.ref b26)])
  refine own_callS X57 hx hZ hown (hw _ (List.mem_of_getElem? (i := 1) rfl)) (hw _ (List.mem_of_getElem? (i := 2) rfl)) (hw _ (List.mem_of_getElem? (i := 3) rfl)) (hw _ (List.mem_of_getElem? (i := 4) rfl)) (by decide) [(.int (f3 cs (10 : Int32)))] [(.int (10 : Int32)), (.ref b26)] (rm1 l Z a0 hw (f3 cs (10 : Int32)) h56 n0 Z0) 2 (by decide) (by decide) e57 (by rw [hml]; rfl) (lenOf own_pd1 rfl) rfl (Nat.le_of_eq rfl) (hb hby at_251) (by decide) (by decide) ?_
  intro v58 T58 L58 X58 q58
  obtain ⟨rfl, N58q, e58⟩ := q58
  have N58 := Fr.app N57 N58q
  show own_Out p_ e_ below s_ _ _ _ T58 (mkF m_ 254 #[.val (.long vals), .second, .val (.long cs), .second, .val (.int r), .val (.int f), .val (.int t), .val (.ref b1), .val (.ref b26), .unset, .unset, .unset, .unset, .unset] [(.int (f1 (f3 cs (10 : Int32)))), (.int (10 : Int32)), (.ref b26)])
  obtain ⟨T59, h59, X59, e59, W59, st59⟩ := own_stC X58 hx hZ e58 A_b26 (f1 (f3 cs (10 : Int32))) (own_ncf _) 10 (by decide) (by decide) (j := (10 : Int32)) (x := (f1 (f3 cs (10 : Int32)))) (Ls := #[.val (.long vals), .second, .val (.long cs), .second, .val (.int r), .val (.int f), .val (.int t), .val (.ref b1), .val (.ref b26), .unset, .unset, .unset, .unset, .unset]) (rest := []) (hb hby at_254)
  have N59 := Fr.snoc X59 N58 g_b26
  replace Z0 : n0 ≤ h59.size := W59.size ▸ Z0
  replace A_b1 := A_b1.other W59 ne_b1_b26
  replace A_b26 : own_A Z h59 b26 k26 .char 18 (fun x_ => .int (([(f1 (f3 cs (0 : Int32))), (f1 (f3 cs (1 : Int32))), (f1 (f3 cs (2 : Int32))), (f1 (f3 cs (3 : Int32))), (f1 (f3 cs (4 : Int32))), (f1 (f3 cs (5 : Int32))), (f1 (f3 cs (6 : Int32))), (f1 (f3 cs (7 : Int32))), (f1 (f3 cs (8 : Int32))), (f1 (f3 cs (9 : Int32))), (f1 (f3 cs (10 : Int32))), (0 : Int32), (0 : Int32), (0 : Int32), (0 : Int32), (0 : Int32), (0 : Int32), (0 : Int32)] : List Int32).getD x_ 0)) := A_b26.setLI (by decide) (Nat.le_of_ble_eq_true rfl) W59
  refine own_st T59 (mkF m_ 255 #[.val (.long vals), .second, .val (.long cs), .second, .val (.int r), .val (.int f), .val (.int t), .val (.ref b1), .val (.ref b26), .unset, .unset, .unset, .unset, .unset] []) st59 ?_
  refine own_st T59 (mkF m_ 262 #[.val (.long vals), .second, .val (.long cs), .second, .val (.int r), .val (.int f), .val (.int t), .val (.ref b1), .val (.ref b26), .unset, .unset, .unset, .unset, .unset] [(.int (11 : Int32)), (.long cs), (.int (11 : Int32)), (.ref b26)]) (fun t_ k_ => ?_) ?_
  · refine XS.aload X59.here hx rfl (hb hby at_255) rfl rfl ?_
    show Steps p_.tables e_ below (T59.setTop (mkF m_ 257 #[.val (.long vals), .second, .val (.long cs), .second, .val (.int r), .val (.int f), .val (.int t), .val (.ref b1), .val (.ref b26), .unset, .unset, .unset, .unset, .unset] [(.ref b26)])) t_
    refine XS.bipush X59.here hx rfl (hb hby at_257) ?_
    show Steps p_.tables e_ below (T59.setTop (mkF m_ 259 #[.val (.long vals), .second, .val (.long cs), .second, .val (.int r), .val (.int f), .val (.int t), .val (.ref b1), .val (.ref b26), .unset, .unset, .unset, .unset, .unset] [(.int (11 : Int32)), (.ref b26)])) t_
    refine XS.lloadN X59.here hx rfl (hb hby at_259) rfl ?_
    show Steps p_.tables e_ below (T59.setTop (mkF m_ 260 #[.val (.long vals), .second, .val (.long cs), .second, .val (.int r), .val (.int f), .val (.int t), .val (.ref b1), .val (.ref b26), .unset, .unset, .unset, .unset, .unset] [(.long cs), (.int (11 : Int32)), (.ref b26)])) t_
    refine XS.bipush X59.here hx rfl (hb hby at_260) ?_
    show Steps p_.tables e_ below (T59.setTop (mkF m_ 262 #[.val (.long vals), .second, .val (.long cs), .second, .val (.int r), .val (.int f), .val (.int t), .val (.ref b1), .val (.ref b26), .unset, .unset, .unset, .unset, .unset] [(.int (11 : Int32)), (.long cs), (.int (11 : Int32)), (.ref b26)])) t_
    exact k_
  refine own_callS X59 hx hZ hown (hw _ (List.mem_of_getElem? (i := 11) rfl)) (hw _ (List.mem_of_getElem? (i := 12) rfl)) (hw _ (List.mem_of_getElem? (i := 3) rfl)) (hw _ (List.mem_of_getElem? (i := 13) rfl)) (by decide) [(.long cs), (.int (11 : Int32))] [(.int (11 : Int32)), (.ref b26)] (rm3 l Z a0 hw cs (11 : Int32) h59 n0 Z0) 2 (by decide) (by decide) e59 (by rw [hml]; rfl) (lenOf own_pd3 rfl) rfl (Nat.le_of_eq rfl) (hb hby at_262) (by decide) (by decide) ?_
  intro v60 T60 L60 X60 q60
  obtain ⟨rfl, N60q, e60⟩ := q60
  have N60 := Fr.app N59 N60q
  show own_Out p_ e_ below s_ _ _ _ T60 (mkF m_ 265 #[.val (.long vals), .second, .val (.long cs), .second, .val (.int r), .val (.int f), .val (.int t), .val (.ref b1), .val (.ref b26), .unset, .unset, .unset, .unset, .unset] [(.int (f3 cs (11 : Int32))), (.int (11 : Int32)), (.ref b26)])
  refine own_callS X60 hx hZ hown (hw _ (List.mem_of_getElem? (i := 1) rfl)) (hw _ (List.mem_of_getElem? (i := 2) rfl)) (hw _ (List.mem_of_getElem? (i := 3) rfl)) (hw _ (List.mem_of_getElem? (i := 4) rfl)) (by decide) [(.int (f3 cs (11 : Int32)))] [(.int (11 : Int32)), (.ref b26)] (rm1 l Z a0 hw (f3 cs (11 : Int32)) h59 n0 Z0) 2 (by decide) (by decide) e60 (by rw [hml]; rfl) (lenOf own_pd1 rfl) rfl (Nat.le_of_eq rfl) (hb hby at_265) (by decide) (by decide) ?_
  intro v61 T61 L61 X61 q61
  obtain ⟨rfl, N61q, e61⟩ := q61
  have N61 := Fr.app N60 N61q
  show own_Out p_ e_ below s_ _ _ _ T61 (mkF m_ 268 #[.val (.long vals), .second, .val (.long cs), .second, .val (.int r), .val (.int f), .val (.int t), .val (.ref b1), .val (.ref b26), .unset, .unset, .unset, .unset, .unset] [(.int (f1 (f3 cs (11 : Int32)))), (.int (11 : Int32)), (.ref b26)])
  obtain ⟨T62, h62, X62, e62, W62, st62⟩ := own_stC X61 hx hZ e61 A_b26 (f1 (f3 cs (11 : Int32))) (own_ncf _) 11 (by decide) (by decide) (j := (11 : Int32)) (x := (f1 (f3 cs (11 : Int32)))) (Ls := #[.val (.long vals), .second, .val (.long cs), .second, .val (.int r), .val (.int f), .val (.int t), .val (.ref b1), .val (.ref b26), .unset, .unset, .unset, .unset, .unset]) (rest := []) (hb hby at_268)
  have N62 := Fr.snoc X62 N61 g_b26
  replace Z0 : n0 ≤ h62.size := W62.size ▸ Z0
  replace A_b1 := A_b1.other W62 ne_b1_b26
  replace A_b26 : own_A Z h62 b26 k26 .char 18 (fun x_ => .int (([(f1 (f3 cs (0 : Int32))), (f1 (f3 cs (1 : Int32))), (f1 (f3 cs (2 : Int32))), (f1 (f3 cs (3 : Int32))), (f1 (f3 cs (4 : Int32))), (f1 (f3 cs (5 : Int32))), (f1 (f3 cs (6 : Int32))), (f1 (f3 cs (7 : Int32))), (f1 (f3 cs (8 : Int32))), (f1 (f3 cs (9 : Int32))), (f1 (f3 cs (10 : Int32))), (f1 (f3 cs (11 : Int32))), (0 : Int32), (0 : Int32), (0 : Int32), (0 : Int32), (0 : Int32), (0 : Int32)] : List Int32).getD x_ 0)) := A_b26.setLI (by decide) (Nat.le_of_ble_eq_true rfl) W62
  refine own_st T62 (mkF m_ 269 #[.val (.long vals), .second, .val (.long cs), .second, .val (.int r), .val (.int f), .val (.int t), .val (.ref b1), .val (.ref b26), .unset, .unset, .unset, .unset, .unset] []) st62 ?_
  refine own_st T62 (mkF m_ 276 #[.val (.long vals), .second, .val (.long cs), .second, .val (.int r), .val (.int f), .val (.int t), .val (.ref b1), .val (.ref b26), .unset, .unset, .unset, .unset, .unset] [(.int (12 : Int32)), (.long cs), (.int (12 : Int32)), (.ref b26)]) (fun t_ k_ => ?_) ?_
  · refine XS.aload X62.here hx rfl (hb hby at_269) rfl rfl ?_
    show Steps p_.tables e_ below (T62.setTop (mkF m_ 271 #[.val (.long vals), .second, .val (.long cs), .second, .val (.int r), .val (.int f), .val (.int t), .val (.ref b1), .val (.ref b26), .unset, .unset, .unset, .unset, .unset] [(.ref b26)])) t_
    refine XS.bipush X62.here hx rfl (hb hby at_271) ?_
    show Steps p_.tables e_ below (T62.setTop (mkF m_ 273 #[.val (.long vals), .second, .val (.long cs), .second, .val (.int r), .val (.int f), .val (.int t), .val (.ref b1), .val (.ref b26), .unset, .unset, .unset, .unset, .unset] [(.int (12 : Int32)), (.ref b26)])) t_
    refine XS.lloadN X62.here hx rfl (hb hby at_273) rfl ?_
    show Steps p_.tables e_ below (T62.setTop (mkF m_ 274 #[.val (.long vals), .second, .val (.long cs), .second, .val (.int r), .val (.int f), .val (.int t), .val (.ref b1), .val (.ref b26), .unset, .unset, .unset, .unset, .unset] [(.long cs), (.int (12 : Int32)), (.ref b26)])) t_
    refine XS.bipush X62.here hx rfl (hb hby at_274) ?_
    show Steps p_.tables e_ below (T62.setTop (mkF m_ 276 #[.val (.long vals), .second, .val (.long cs), .second, .val (.int r), .val (.int f), .val (.int t), .val (.ref b1), .val (.ref b26), .unset, .unset, .unset, .unset, .unset] [(.int (12 : Int32)), (.long cs), (.int (12 : Int32)), (.ref b26)])) t_
    exact k_
  refine own_callS X62 hx hZ hown (hw _ (List.mem_of_getElem? (i := 11) rfl)) (hw _ (List.mem_of_getElem? (i := 12) rfl)) (hw _ (List.mem_of_getElem? (i := 3) rfl)) (hw _ (List.mem_of_getElem? (i := 13) rfl)) (by decide) [(.long cs), (.int (12 : Int32))] [(.int (12 : Int32)), (.ref b26)] (rm3 l Z a0 hw cs (12 : Int32) h62 n0 Z0) 2 (by decide) (by decide) e62 (by rw [hml]; rfl) (lenOf own_pd3 rfl) rfl (Nat.le_of_eq rfl) (hb hby at_276) (by decide) (by decide) ?_
  intro v63 T63 L63 X63 q63
  obtain ⟨rfl, N63q, e63⟩ := q63
  have N63 := Fr.app N62 N63q
  show own_Out p_ e_ below s_ _ _ _ T63 (mkF m_ 279 #[.val (.long vals), .second, .val (.long cs), .second, .val (.int r), .val (.int f), .val (.int t), .val (.ref b1), .val (.ref b26), .unset, .unset, .unset, .unset, .unset] [(.int (f3 cs (12 : Int32))), (.int (12 : Int32)), (.ref b26)])
  refine own_callS X63 hx hZ hown (hw _ (List.mem_of_getElem? (i := 1) rfl)) (hw _ (List.mem_of_getElem? (i := 2) rfl)) (hw _ (List.mem_of_getElem? (i := 3) rfl)) (hw _ (List.mem_of_getElem? (i := 4) rfl)) (by decide) [(.int (f3 cs (12 : Int32)))] [(.int (12 : Int32)), (.ref b26)] (rm1 l Z a0 hw (f3 cs (12 : Int32)) h62 n0 Z0) 2 (by decide) (by decide) e63 (by rw [hml]; rfl) (lenOf own_pd1 rfl) rfl (Nat.le_of_eq rfl) (hb hby at_279) (by decide) (by decide) ?_
  intro v64 T64 L64 X64 q64
  obtain ⟨rfl, N64q, e64⟩ := q64
  have N64 := Fr.app N63 N64q
  show own_Out p_ e_ below s_ _ _ _ T64 (mkF m_ 282 #[.val (.long vals), .second, .val (.long cs), .second, .val (.int r), .val (.int f), .val (.int t), .val (.ref b1), .val (.ref b26), .unset, .unset, .unset, .unset, .unset] [(.int (f1 (f3 cs (12 : Int32)))), (.int (12 : Int32)), (.ref b26)])
  obtain ⟨T65, h65, X65, e65, W65, st65⟩ := own_stC X64 hx hZ e64 A_b26 (f1 (f3 cs (12 : Int32))) (own_ncf _) 12 (by decide) (by decide) (j := (12 : Int32)) (x := (f1 (f3 cs (12 : Int32)))) (Ls := #[.val (.long vals), .second, .val (.long cs), .second, .val (.int r), .val (.int f), .val (.int t), .val (.ref b1), .val (.ref b26), .unset, .unset, .unset, .unset, .unset]) (rest := []) (hb hby at_282)
  have N65 := Fr.snoc X65 N64 g_b26
  replace Z0 : n0 ≤ h65.size := W65.size ▸ Z0
  replace A_b1 := A_b1.other W65 ne_b1_b26
  replace A_b26 : own_A Z h65 b26 k26 .char 18 (fun x_ => .int (([(f1 (f3 cs (0 : Int32))), (f1 (f3 cs (1 : Int32))), (f1 (f3 cs (2 : Int32))), (f1 (f3 cs (3 : Int32))), (f1 (f3 cs (4 : Int32))), (f1 (f3 cs (5 : Int32))), (f1 (f3 cs (6 : Int32))), (f1 (f3 cs (7 : Int32))), (f1 (f3 cs (8 : Int32))), (f1 (f3 cs (9 : Int32))), (f1 (f3 cs (10 : Int32))), (f1 (f3 cs (11 : Int32))), (f1 (f3 cs (12 : Int32))), (0 : Int32), (0 : Int32), (0 : Int32), (0 : Int32), (0 : Int32)] : List Int32).getD x_ 0)) := A_b26.setLI (by decide) (Nat.le_of_ble_eq_true rfl) W65
  refine own_st T65 (mkF m_ 283 #[.val (.long vals), .second, .val (.long cs), .second, .val (.int r), .val (.int f), .val (.int t), .val (.ref b1), .val (.ref b26), .unset, .unset, .unset, .unset, .unset] []) st65 ?_
  refine own_st T65 (mkF m_ 290 #[.val (.long vals), .second, .val (.long cs), .second, .val (.int r), .val (.int f), .val (.int t), .val (.ref b1), .val (.ref b26), .unset, .unset, .unset, .unset, .unset] [(.int (13 : Int32)), (.long cs), (.int (13 : Int32)), (.ref b26)]) (fun t_ k_ => ?_) ?_
  · refine XS.aload X65.here hx rfl (hb hby at_283) rfl rfl ?_
    show Steps p_.tables e_ below (T65.setTop (mkF m_ 285 #[.val (.long vals), .second, .val (.long cs), .second, .val (.int r), .val (.int f), .val (.int t), .val (.ref b1), .val (.ref b26), .unset, .unset, .unset, .unset, .unset] [(.ref b26)])) t_
    refine XS.bipush X65.here hx rfl (hb hby at_285) ?_
    show Steps p_.tables e_ below (T65.setTop (mkF m_ 287 #[.val (.long vals), .second, .val (.long cs), .second, .val (.int r), .val (.int f), .val (.int t), .val (.ref b1), .val (.ref b26), .unset, .unset, .unset, .unset, .unset] [(.int (13 : Int32)), (.ref b26)])) t_
    refine XS.lloadN X65.here hx rfl (hb hby at_287) rfl ?_
    show Steps p_.tables e_ below (T65.setTop (mkF m_ 288 #[.val (.long vals), .second, .val (.long cs), .second, .val (.int r), .val (.int f), .val (.int t), .val (.ref b1), .val (.ref b26), .unset, .unset, .unset, .unset, .unset] [(.long cs), (.int (13 : Int32)), (.ref b26)])) t_
    refine XS.bipush X65.here hx rfl (hb hby at_288) ?_
    show Steps p_.tables e_ below (T65.setTop (mkF m_ 290 #[.val (.long vals), .second, .val (.long cs), .second, .val (.int r), .val (.int f), .val (.int t), .val (.ref b1), .val (.ref b26), .unset, .unset, .unset, .unset, .unset] [(.int (13 : Int32)), (.long cs), (.int (13 : Int32)), (.ref b26)])) t_
    exact k_
  refine own_callS X65 hx hZ hown (hw _ (List.mem_of_getElem? (i := 11) rfl)) (hw _ (List.mem_of_getElem? (i := 12) rfl)) (hw _ (List.mem_of_getElem? (i := 3) rfl)) (hw _ (List.mem_of_getElem? (i := 13) rfl)) (by decide) [(.long cs), (.int (13 : Int32))] [(.int (13 : Int32)), (.ref b26)] (rm3 l Z a0 hw cs (13 : Int32) h65 n0 Z0) 2 (by decide) (by decide) e65 (by rw [hml]; rfl) (lenOf own_pd3 rfl) rfl (Nat.le_of_eq rfl) (hb hby at_290) (by decide) (by decide) ?_
  intro v66 T66 L66 X66 q66
  obtain ⟨rfl, N66q, e66⟩ := q66
  have N66 := Fr.app N65 N66q
  show own_Out p_ e_ below s_ _ _ _ T66 (mkF m_ 293 #[.val (.long vals), .second, .val (.long cs), .second, .val (.int r), .val (.int f), .val (.int t), .val (.ref b1), .val (.ref b26), .unset, .unset, .unset, .unset, .unset] [(.int (f3 cs (13 : Int32))), (.int (13 : Int32)), (.ref b26)])
  refine own_callS X66 hx hZ hown (hw _ (List.mem_of_getElem? (i := 1) rfl)) (hw _ (List.mem_of_getElem? (i := 2) rfl)) (hw _ (List.mem_of_getElem? (i := 3) rfl)) (hw _ (List.mem_of_getElem? (i := 4) rfl)) (by decide) [(.int (f3 cs (13 : Int32)))] [(.int (13 : Int32)), (.ref b26)] (rm1 l Z a0 hw (f3 cs (13 : Int32)) h65 n0 Z0) 2 (by decide) (by decide) e66 (by rw [hml]; rfl) (lenOf own_pd1 rfl) rfl (Nat.le_of_eq rfl) (hb hby at_293) (by decide) (by decide) ?_
  intro v67 T67 L67 X67 q67
  obtain ⟨rfl, N67q, e67⟩ := q67
  have N67 := Fr.app N66 N67q
  show own_Out p_ e_ below s_ _ _ _ T67 (mkF m_ 296 #[.val (.long vals), .second, .val (.long cs), .second, .val (.int r), .val (.int f), .val (.int t), .val (.ref b1), .val (.ref b26), .unset, .unset, .unset, .unset, .unset] [(.int (f1 (f3 cs (13 : Int32)))), (.int (13 : Int32)), (.ref b26)])
  obtain ⟨T68, h68, X68, e68, W68, st68⟩ := own_stC X67 hx hZ e67 A_b26 (f1 (f3 cs (13 : Int32))) (own_ncf _) 13 (by decide) (by decide) (j := (13 : Int32)) (x := (f1 (f3 cs (13 : Int32)))) (Ls := #[.val (.long vals), .second, .val (.long cs), .second, .val (.int r), .val (.int f), .val (.int t), .val (.ref b1), .val (.ref b26), .unset, .unset, .unset, .unset, .unset]) (rest := []) (hb hby at_296)
  have N68 := Fr.snoc X68 N67 g_b26
  replace Z0 : n0 ≤ h68.size := W68.size ▸ Z0
  replace A_b1 := A_b1.other W68 ne_b1_b26
  replace A_b26 : own_A Z h68 b26 k26 .char 18 (fun x_ => .int (([(f1 (f3 cs (0 : Int32))), (f1 (f3 cs (1 : Int32))), (f1 (f3 cs (2 : Int32))), (f1 (f3 cs (3 : Int32))), (f1 (f3 cs (4 : Int32))), (f1 (f3 cs (5 : Int32))), (f1 (f3 cs (6 : Int32))), (f1 (f3 cs (7 : Int32))), (f1 (f3 cs (8 : Int32))), (f1 (f3 cs (9 : Int32))), (f1 (f3 cs (10 : Int32))), (f1 (f3 cs (11 : Int32))), (f1 (f3 cs (12 : Int32))), (f1 (f3 cs (13 : Int32))), (0 : Int32), (0 : Int32), (0 : Int32), (0 : Int32)] : List Int32).getD x_ 0)) := A_b26.setLI (by decide) (Nat.le_of_ble_eq_true rfl) W68
  refine own_st T68 (mkF m_ 297 #[.val (.long vals), .second, .val (.long cs), .second, .val (.int r), .val (.int f), .val (.int t), .val (.ref b1), .val (.ref b26), .unset, .unset, .unset, .unset, .unset] []) st68 ?_
  refine own_st T68 (mkF m_ 304 #[.val (.long vals), .second, .val (.long cs), .second, .val (.int r), .val (.int f), .val (.int t), .val (.ref b1), .val (.ref b26), .unset, .unset, .unset, .unset, .unset] [(.int (14 : Int32)), (.long cs), (.int (14 : Int32)), (.ref b26)]) (fun t_ k_ => ?_) ?_
  · refine XS.aload X68.here hx rfl (hb hby at_297) rfl rfl ?_
    show Steps p_.tables e_ below (T68.setTop (mkF m_ 299 #[.val (.long vals), .second, .val (.long cs), .second, .val (.int r), .val (.int f), .val (.int t), .val (.ref b1), .val (.ref b26), .unset, .unset, .unset, .unset, .unset] [(.ref b26)])) t_
    refine XS.bipush X68.here hx rfl (hb hby at_299) ?_
    show Steps p_.tables e_ below (T68.setTop (mkF m_ 301 #[.val (.long vals), .second, .val (.long cs), .second, .val (.int r), .val (.int f), .val (.int t), .val (.ref b1), .val (.ref b26), .unset, .unset, .unset, .unset, .unset] [(.int (14 : Int32)), (.ref b26)])) t_
    refine XS.lloadN X68.here hx rfl (hb hby at_301) rfl ?_
    show Steps p_.tables e_ below (T68.setTop (mkF m_ 302 #[.val (.long vals), .second, .val (.long cs), .second, .val (.int r), .val (.int f), .val (.int t), .val (.ref b1), .val (.ref b26), .unset, .unset, .unset, .unset, .unset] [(.long cs), (.int (14 : Int32)), (.ref b26)])) t_
    refine XS.bipush X68.here hx rfl (hb hby at_302) ?_
    show Steps p_.tables e_ below (T68.setTop (mkF m_ 304 #[.val (.long vals), .second, .val (.long cs), .second, .val (.int r), .val (.int f), .val (.int t), .val (.ref b1), .val (.ref b26), .unset, .unset, .unset, .unset, .unset] [(.int (14 : Int32)), (.long cs), (.int (14 : Int32)), (.ref b26)])) t_
    exact k_
  refine own_callS X68 hx hZ hown (hw _ (List.mem_of_getElem? (i := 11) rfl)) (hw _ (List.mem_of_getElem? (i := 12) rfl)) (hw _ (List.mem_of_getElem? (i := 3) rfl)) (hw _ (List.mem_of_getElem? (i := 13) rfl)) (by decide) [(.long cs), (.int (14 : Int32))] [(.int (14 : Int32)), (.ref b26)] (rm3 l Z a0 hw cs (14 : Int32) h68 n0 Z0) 2 (by decide) (by decide) e68 (by rw [hml]; rfl) (lenOf own_pd3 rfl) rfl (Nat.le_of_eq rfl) (hb hby at_304) (by decide) (by decide) ?_
  intro v69 T69 L69 X69 q69
  obtain ⟨rfl, N69q, e69⟩ := q69
  have N69 := Fr.app N68 N69q
  show own_Out p_ e_ below s_ _ _ _ T69 (mkF m_ 307 #[.val (.long vals), .second, .val (.long cs), .second, .val (.int r), .val (.int f), .val (.int t), .val (.ref b1), .val (.ref b26), .unset, .unset, .unset, .unset, .unset] [(.int (f3 cs (14 : Int32))), (.int (14 : Int32)), (.ref b26)])
  refine own_callS X69 hx hZ hown (hw _ (List.mem_of_getElem? (i := 1) rfl)) (hw _ (List.mem_of_getElem? (i := 2) rfl)) (hw _ (List.mem_of_getElem? (i := 3) rfl)) (hw _ (List.mem_of_getElem? (i := 4) rfl)) (by decide) [(.int (f3 cs (14 : Int32)))] [(.int (14 : Int32)), (.ref b26)] (rm1 l Z a0 hw (f3 cs (14 : Int32)) h68 n0 Z0) 2 (by decide) (by decide) e69 (by rw [hml]; rfl) (lenOf own_pd1 rfl) rfl (Nat.le_of_eq rfl) (hb hby at_307) (by decide) (by decide) ?_
  intro v70 T70 L70 X70 q70
  obtain ⟨rfl, N70q, e70⟩ := q70
  have N70 := Fr.app N69 N70q
  show own_Out p_ e_ below s_ _ _ _ T70 (mkF m_ 310 #[.val (.long vals), .second, .val (.long cs), .second, .val (.int r), .val (.int f), .val (.int t), .val (.ref b1), .val (.ref b26), .unset, .unset, .unset, .unset, .unset] [(.int (f1 (f3 cs (14 : Int32)))), (.int (14 : Int32)), (.ref b26)])
  obtain ⟨T71, h71, X71, e71, W71, st71⟩ := own_stC X70 hx hZ e70 A_b26 (f1 (f3 cs (14 : Int32))) (own_ncf _) 14 (by decide) (by decide) (j := (14 : Int32)) (x := (f1 (f3 cs (14 : Int32)))) (Ls := #[.val (.long vals), .second, .val (.long cs), .second, .val (.int r), .val (.int f), .val (.int t), .val (.ref b1), .val (.ref b26), .unset, .unset, .unset, .unset, .unset]) (rest := []) (hb hby at_310)
  have N71 := Fr.snoc X71 N70 g_b26
  replace Z0 : n0 ≤ h71.size := W71.size ▸ Z0
  replace A_b1 := A_b1.other W71 ne_b1_b26
  replace A_b26 : own_A Z h71 b26 k26 .char 18 (fun x_ => .int (([(f1 (f3 cs (0 : Int32))), (f1 (f3 cs (1 : Int32))), (f1 (f3 cs (2 : Int32))), (f1 (f3 cs (3 : Int32))), (f1 (f3 cs (4 : Int32))), (f1 (f3 cs (5 : Int32))), (f1 (f3 cs (6 : Int32))), (f1 (f3 cs (7 : Int32))), (f1 (f3 cs (8 : Int32))), (f1 (f3 cs (9 : Int32))), (f1 (f3 cs (10 : Int32))), (f1 (f3 cs (11 : Int32))), (f1 (f3 cs (12 : Int32))), (f1 (f3 cs (13 : Int32))), (f1 (f3 cs (14 : Int32))), (0 : Int32), (0 : Int32), (0 : Int32)] : List Int32).getD x_ 0)) := A_b26.setLI (by decide) (Nat.le_of_ble_eq_true rfl) W71
  refine own_st T71 (mkF m_ 311 #[.val (.long vals), .second, .val (.long cs), .second, .val (.int r), .val (.int f), .val (.int t), .val (.ref b1), .val (.ref b26), .unset, .unset, .unset, .unset, .unset] []) st71 ?_
  refine own_st T71 (mkF m_ 318 #[.val (.long vals), .second, .val (.long cs), .second, .val (.int r), .val (.int f), .val (.int t), .val (.ref b1), .val (.ref b26), .unset, .unset, .unset, .unset, .unset] [(.int (15 : Int32)), (.long cs), (.int (15 : Int32)), (.ref b26)]) (fun t_ k_ => ?_) ?_
  · refine XS.aload X71.here hx rfl (hb hby at_311) rfl rfl ?_
    show Steps p_.tables e_ below (T71.setTop (mkF m_ 313 #[.val (.long vals), .second, .val (.long cs), .second, .val (.int r), .val (.int f), .val (.int t), .val (.ref b1), .val (.ref b26), .unset, .unset, .unset, .unset, .unset] [(.ref b26)])) t_
    refine XS.bipush X71.here hx rfl (hb hby at_313) ?_
    show Steps p_.tables e_ below (T71.setTop (mkF m_ 315 #[.val (.long vals), .second, .val (.long cs), .second, .val (.int r), .val (.int f), .val (.int t), .val (.ref b1), .val (.ref b26), .unset, .unset, .unset, .unset, .unset] [(.int (15 : Int32)), (.ref b26)])) t_
    refine XS.lloadN X71.here hx rfl (hb hby at_315) rfl ?_
    show Steps p_.tables e_ below (T71.setTop (mkF m_ 316 #[.val (.long vals), .second, .val (.long cs), .second, .val (.int r), .val (.int f), .val (.int t), .val (.ref b1), .val (.ref b26), .unset, .unset, .unset, .unset, .unset] [(.long cs), (.int (15 : Int32)), (.ref b26)])) t_
    refine XS.bipush X71.here hx rfl (hb hby at_316) ?_
    show Steps p_.tables e_ below (T71.setTop (mkF m_ 318 #[.val (.long vals), .second, .val (.long cs), .second, .val (.int r), .val (.int f), .val (.int t), .val (.ref b1), .val (.ref b26), .unset, .unset, .unset, .unset, .unset] [(.int (15 : Int32)), (.long cs), (.int (15 : Int32)), (.ref b26)])) t_
    exact k_
  refine own_callS X71 hx hZ hown (hw _ (List.mem_of_getElem? (i := 11) rfl)) (hw _ (List.mem_of_getElem? (i := 12) rfl)) (hw _ (List.mem_of_getElem? (i := 3) rfl)) (hw _ (List.mem_of_getElem? (i := 13) rfl)) (by decide) [(.long cs), (.int (15 : Int32))] [(.int (15 : Int32)), (.ref b26)] (rm3 l Z a0 hw cs (15 : Int32) h71 n0 Z0) 2 (by decide) (by decide) e71 (by rw [hml]; rfl) (lenOf own_pd3 rfl) rfl (Nat.le_of_eq rfl) (hb hby at_318) (by decide) (by decide) ?_
  intro v72 T72 L72 X72 q72
  obtain ⟨rfl, N72q, e72⟩ := q72
  have N72 := Fr.app N71 N72q
  show own_Out p_ e_ below s_ _ _ _ T72 (mkF m_ 321 #[.val (.long vals), .second, .val (.long cs), .second, .val (.int r), .val (.int f), .val (.int t), .val (.ref b1), .val (.ref b26), .unset, .unset, .unset, .unset, .unset] [(.int (f3 cs (15 : Int32))), (.int (15 : Int32)), (.ref b26)])
  refine own_callS X72 hx hZ hown (hw _ (List.mem_of_getElem? (i := 1) rfl)) (hw _ (List.mem_of_getElem? (i := 2) rfl)) (hw _ (List.mem_of_getElem? (i := 3) rfl)) (hw _ (List.mem_of_getElem? (i := 4) rfl)) (by decide) [(.int (f3 cs (15 : Int32)))] [(.int (15 : Int32)), (.ref b26)] (rm1 l Z a0 hw (f3 cs (15 : Int32)) h71 n0 Z0) 2 (by decide) (by decide) e72 (by rw [hml]; rfl) (lenOf own_pd1 rfl) rfl (Nat.le_of_eq rfl) (hb hby at_321) (by decide) (by decide) ?_
  intro v73 T73 L73 X73 q73
  obtain ⟨rfl, N73q, e73⟩ := q73
  have N73 := Fr.app N72 N73q
  show own_Out p_ e_ below s_ _ _ _ T73 (mkF m_ 324 #[.val (.long vals), .second, .val (.long cs), .second, .val (.int r), .val (.int f), .val (.int t), .val (.ref b1), .val (.ref b26), .unset, .unset, .unset, .unset, .unset] [(.int (f1 (f3 cs (15 : Int32)))), (.int (15 : Int32)), (.ref b26)])
  obtain ⟨T74, h74, X74, e74, W74, st74⟩ := own_stC X73 hx hZ e73 A_b26 (f1 (f3 cs (15 : Int32))) (own_ncf _) 15 (by decide) (by decide) (j := (15 : Int32)) (x := (f1 (f3 cs (15 : Int32)))) (Ls := #[.val (.long vals), .second, .val (.long cs), .second, .val (.int r), .val (.int f), .val (.int t), .val (.ref b1), .val (.ref b26), .unset, .unset, .unset, .unset, .unset]) (rest := []) (hb hby at_324)
  have N74 := Fr.snoc X74 N73 g_b26
  replace Z0 : n0 ≤ h74.size := W74.size ▸ Z0
  replace A_b1 := A_b1.other W74 ne_b1_b26
  replace A_b26 : own_A Z h74 b26 k26 .char 18 (fun x_ => .int (([(f1 (f3 cs (0 : Int32))), (f1 (f3 cs (1 : Int32))), (f1 (f3 cs (2 : Int32))), (f1 (f3 cs (3 : Int32))), (f1 (f3 cs (4 : Int32))), (f1 (f3 cs (5 : Int32))), (f1 (f3 cs (6 : Int32))), (f1 (f3 cs (7 : Int32))), (f1 (f3 cs (8 : Int32))), (f1 (f3 cs (9 : Int32))), (f1 (f3 cs (10 : Int32))), (f1 (f3 cs (11 : Int32))), (f1 (f3 cs (12 : Int32))), (f1 (f3 cs (13 : Int32))), (f1 (f3 cs (14 : Int32))), (f1 (f3 cs (15 : Int32))), (0 : Int32), (0 : Int32)] : List Int32).getD x_ 0)) := A_b26.setLI (by decide) (Nat.le_of_ble_eq_true rfl) W74
  refine own_st T74 (mkF m_ 325 #[.val (.long vals), .second, .val (.long cs), .second, .val (.int r), .val (.int f), .val (.int t), .val (.ref b1), .val (.ref b26), .unset, .unset, .unset, .unset, .unset] []) st74 ?_
  refine own_st T74 (mkF m_ 332 #[.val (.long vals), .second, .val (.long cs), .second, .val (.int r), .val (.int f), .val (.int t), .val (.ref b1), .val (.ref b26), .unset, .unset, .unset, .unset, .unset] [(.int (16 : Int32)), (.long cs), (.int (16 : Int32)), (.ref b26)]) (fun t_ k_ => ?_) ?_
  · refine XS.aload X74.here hx rfl (hb hby at_325) rfl rfl ?_
    show Steps p_.tables e_ below (T74.setTop (mkF m_ 327 #[.val (.long vals), .second, .val (.long cs), .second, .val (.int r), .val (.int f), .val (.int t), .val (.ref b1), .val (.ref b26), .unset, .unset, .unset, .unset, .unset] [(.ref b26)])) t_
    refine XS.bipush X74.here hx rfl (hb hby at_327) ?_
    show Steps p_.tables e_ below (T74.setTop (mkF m_ 329 #[.val (.long vals), .second, .val (.long cs), .second, .val (.int r), .val (.int f), .val (.int t), .val (.ref b1), .val (.ref b26), .unset, .unset, .unset, .unset, .unset] [(.int (16 : Int32)), (.ref b26)])) t_
    refine XS.lloadN X74.here hx rfl (hb hby at_329) rfl ?_
    show Steps p_.tables e_ below (T74.setTop (mkF m_ 330 #[.val (.long vals), .second, .val (.long cs), .second, .val (.int r), .val (.int f), .val (.int t), .val (.ref b1), .val (.ref b26), .unset, .unset, .unset, .unset, .unset] [(.long cs), (.int (16 : Int32)), (.ref b26)])) t_
    refine XS.bipush X74.here hx rfl (hb hby at_330) ?_
    show Steps p_.tables e_ below (T74.setTop (mkF m_ 332 #[.val (.long vals), .second, .val (.long cs), .second, .val (.int r), .val (.int f), .val (.int t), .val (.ref b1), .val (.ref b26), .unset, .unset, .unset, .unset, .unset] [(.int (16 : Int32)), (.long cs), (.int (16 : Int32)), (.ref b26)])) t_
    exact k_
  refine own_callS X74 hx hZ hown (hw _ (List.mem_of_getElem? (i := 11) rfl)) (hw _ (List.mem_of_getElem? (i := 12) rfl)) (hw _ (List.mem_of_getElem? (i := 3) rfl)) (hw _ (List.mem_of_getElem? (i := 13) rfl)) (by decide) [(.long cs), (.int (16 : Int32))] [(.int (16 : Int32)), (.ref b26)] (rm3 l Z a0 hw cs (16 : Int32) h74 n0 Z0) 2 (by decide) (by decide) e74 (by rw [hml]; rfl) (lenOf own_pd3 rfl) rfl (Nat.le_of_eq rfl) (hb hby at_332) (by decide) (by decide) ?_
  intro v75 T75 L75 X75 q75
  obtain ⟨rfl, N75q, e75⟩ := q75
  have N75 := Fr.app N74 N75q
  show own_Out p_ e_ below s_ _ _ _ T75 (mkF m_ 335 #[.val (.long vals), .second, .val (.long cs), .second, .val (.int r), .val (.int f), .val (.int t), .val (.ref b1), .val (.ref b26), .unset, .unset, .unset, .unset, .unset] [(.int (f3 cs (16 : Int32))), (.int (16 : Int32)), (.ref b26)])
  refine own_callS X75 hx hZ hown (hw _ (List.mem_of_getElem? (i := 1) rfl)) (hw _ (List.mem_of_getElem? (i := 2) rfl)) (hw _ (List.mem_of_getElem? (i := 3) rfl)) (hw _ (List.mem_of_getElem? (i := 4) rfl)) (by decide) [(.int (f3 cs (16 : Int32)))] [(.int (16 : Int32)), (.ref b26)] (rm1 l Z a0 hw (f3 cs (16 : Int32)) h74 n0 Z0) 2 (by decide) (by decide) e75 (by rw [hml]; rfl) (lenOf own_pd1 rfl) rfl (Nat.le_of_eq rfl) (hb hby at_335) (by decide) (by decide) ?_
  intro v76 T76 L76 X76 q76
  obtain ⟨rfl, N76q, e76⟩ := q76
  have N76 := Fr.app N75 N76q
  show own_Out p_ e_ below s_ _ _ _ T76 (mkF m_ 338 #[.val (.long vals), .second, .val (.long cs), .second, .val (.int r), .val (.int f), .val (.int t), .val (.ref b1), .val (.ref b26), .unset, .unset, .unset, .unset, .unset] [(.int (f1 (f3 cs (16 : Int32)))), (.int (16 : Int32)), (.ref b26)])
  obtain ⟨T77, h77, X77, e77, W77, st77⟩ := own_stC X76 hx hZ e76 A_b26 (f1 (f3 cs (16 : Int32))) (own_ncf _) 16 (by decide) (by decide) (j := (16 : Int32)) (x := (f1 (f3 cs (16 : Int32)))) (Ls := #[.val (.long vals), .second, .val (.long cs), .second, .val (.int r), .val (.int f), .val (.int t), .val (.ref b1), .val (.ref b26), .unset, .unset, .unset, .unset, .unset]) (rest := []) (hb hby at_338)
  have N77 := Fr.snoc X77 N76 g_b26
  replace Z0 : n0 ≤ h77.size := W77.size ▸ Z0
  replace A_b1 := A_b1.other W77 ne_b1_b26
  replace A_b26 : own_A Z h77 b26 k26 .char 18 (fun x_ => .int (([(f1 (f3 cs (0 : Int32))), (f1 (f3 cs (1 : Int32))), (f1 (f3 cs (2 : Int32))), (f1 (f3 cs (3 : Int32))), (f1 (f3 cs (4 : Int32))), (f1 (f3 cs (5 : Int32))), (f1 (f3 cs (6 : Int32))), (f1 (f3 cs (7 : Int32))), (f1 (f3 cs (8 : Int32))), (f1 (f3 cs (9 : Int32))), (f1 (f3 cs (10 : Int32))), (f1 (f3 cs (11 : Int32))), (f1 (f3 cs (12 : Int32))), (f1 (f3 cs (13 : Int32))), (f1 (f3 cs (14 : Int32))), (f1 (f3 cs (15 : Int32))), (f1 (f3 cs (16 : Int32))), (0 : Int32)] : List Int32).getD x_ 0)) := A_b26.setLI (by decide) (Nat.le_of_ble_eq_true rfl) W77
  refine own_st T77 (mkF m_ 339 #[.val (.long vals), .second, .val (.long cs), .second, .val (.int r), .val (.int f), .val (.int t), .val (.ref b1), .val (.ref b26), .unset, .unset, .unset, .unset, .unset] []) st77 ?_
  refine own_st T77 (mkF m_ 346 #[.val (.long vals), .second, .val (.long cs), .second, .val (.int r), .val (.int f), .val (.int t), .val (.ref b1), .val (.ref b26), .unset, .unset, .unset, .unset, .unset] [(.int (17 : Int32)), (.long cs), (.int (17 : Int32)), (.ref b26)]) (fun t_ k_ => ?_) ?_
  · refine XS.aload X77.here hx rfl (hb hby at_339) rfl rfl ?_
    show Steps p_.tables e_ below (T77.setTop (mkF m_ 341 #[.val (.long vals), .second, .val (.long cs), .second, .val (.int r), .val (.int f), .val (.int t), .val (.ref b1), .val (.ref b26), .unset, .unset, .unset, .unset, .unset] [(.ref b26)])) t_
    refine XS.bipush X77.here hx rfl (hb hby at_341) ?_
    show Steps p_.tables e_ below (T77.setTop (mkF m_ 343 #[.val (.long vals), .second, .val (.long cs), .second, .val (.int r), .val (.int f), .val (.int t), .val (.ref b1), .val (.ref b26), .unset, .unset, .unset, .unset, .unset] [(.int (17 : Int32)), (.ref b26)])) t_
    refine XS.lloadN X77.here hx rfl (hb hby at_343) rfl ?_
    show Steps p_.tables e_ below (T77.setTop (mkF m_ 344 #[.val (.long vals), .second, .val (.long cs), .second, .val (.int r), .val (.int f), .val (.int t), .val (.ref b1), .val (.ref b26), .unset, .unset, .unset, .unset, .unset] [(.long cs), (.int (17 : Int32)), (.ref b26)])) t_
    refine XS.bipush X77.here hx rfl (hb hby at_344) ?_
    show Steps p_.tables e_ below (T77.setTop (mkF m_ 346 #[.val (.long vals), .second, .val (.long cs), .second, .val (.int r), .val (.int f), .val (.int t), .val (.ref b1), .val (.ref b26), .unset, .unset, .unset, .unset, .unset] [(.int (17 : Int32)), (.long cs), (.int (17 : Int32)), (.ref b26)])) t_
    exact k_
  refine own_callS X77 hx hZ hown (hw _ (List.mem_of_getElem? (i := 11) rfl)) (hw _ (List.mem_of_getElem? (i := 12) rfl)) (hw _ (List.mem_of_getElem? (i := 3) rfl)) (hw _ (List.mem_of_getElem? (i := 13) rfl)) (by decide) [(.long cs), (.int (17 : Int32))] [(.int (17 : Int32)), (.ref b26)] (rm3 l Z a0 hw cs (17 : Int32) h77 n0 Z0) 2 (by decide) (by decide) e77 (by rw [hml]; rfl) (lenOf own_pd3 rfl) rfl (Nat.le_of_eq rfl) (hb hby at_346) (by decide) (by decide) ?_
  intro v78 T78 L78 X78 q78
  obtain ⟨rfl, N78q, e78⟩ := q78
  have N78 := Fr.app N77 N78q
  show own_Out p_ e_ below s_ _ _ _ T78 (mkF m_ 349 #[.val (.long vals), .second, .val (.long cs), .second, .val (.int r), .val (.int f), .val (.int t), .val (.ref b1), .val (.ref b26), .unset, .unset, .unset, .unset, .unset] [(.int (f3 cs (17 : Int32))), (.int (17 : Int32)), (.ref b26)])
  refine own_callS X78 hx hZ hown (hw _ (List.mem_of_getElem? (i := 1) rfl)) (hw _ (List.mem_of_getElem? (i := 2) rfl)) (hw _ (List.mem_of_getElem? (i := 3) rfl)) (hw _ (List.mem_of_getElem? (i := 4) rfl)) (by decide) [(.int (f3 cs (17 : Int32)))] [(.int (17 : Int32)), (.ref b26)] (rm1 l Z a0 hw (f3 cs (17 : Int32)) h77 n0 Z0) 2 (by decide) (by decide) e78 (by rw [hml]; rfl) (lenOf own_pd1 rfl) rfl (Nat.le_of_eq rfl) (hb hby at_349) (by decide) (by decide) ?_
  intro v79 T79 L79 X79 q79
  obtain ⟨rfl, N79q, e79⟩ := q79
  have N79 := Fr.app N78 N79q
  show own_Out p_ e_ below s_ _ _ _ T79 (mkF m_ 352 #[.val (.long vals), .second, .val (.long cs), .second, .val (.int r), .val (.int f), .val (.int t), .val (.ref b1), .val (.ref b26), .unset, .unset, .unset, .unset, .unset] [(.int (f1 (f3 cs (17 : Int32)))), (.int (17 : Int32)), (.ref b26)])
  obtain ⟨T80, h80, X80, e80, W80, st80⟩ := own_stC X79 hx hZ e79 A_b26 (f1 (f3 cs (17 : Int32))) (own_ncf _) 17 (by decide) (by decide) (j := (17 : Int32)) (x := (f1 (f3 cs (17 : Int32)))) (Ls := #[.val (.long vals), .second, .val (.long cs), .second, .val (.int r), .val (.int f), .val (.int t), .val (.ref b1), .val (.ref b26), .unset, .unset, .unset, .unset, .unset]) (rest := []) (hb hby at_352)
  have N80 := Fr.snoc X80 N79 g_b26
  replace Z0 : n0 ≤ h80.size := W80.size ▸ Z0
  replace A_b1 := A_b1.other W80 ne_b1_b26
  replace A_b26 : own_A Z h80 b26 k26 .char 18 (fun x_ => .int (own_chars cs x_)) := A_b26.setLI (by decide) (Nat.le_of_ble_eq_true rfl) W80
  refine own_st T80 (mkF m_ 353 #[.val (.long vals), .second, .val (.long cs), .second, .val (.int r), .val (.int f), .val (.int t), .val (.ref b1), .val (.ref b26), .unset, .unset, .unset, .unset, .unset] []) st80 ?_
  refine own_st T80 (mkF m_ 399 #[.val (.long vals), .second, .val (.long cs), .second, .val (.int r), .val (.int f), .val (.int t), .val (.ref b1), .val (.ref b26), .val (.int (own_r r)), .val (.int (own_f f)), .val (.int (own_t f t)), .unset, .unset] [(.int (own_t f t)), (.int (own_f f)), (.ref b26), (.int (own_r r)), (.ref b1)]) (fun t_ k_ => ?_) ?_
  · refine XS.iload X80.here hx rfl (hb hby at_353) rfl ?_
    show Steps p_.tables e_ below (T80.setTop (mkF m_ 355 #[.val (.long vals), .second, .val (.long cs), .second, .val (.int r), .val (.int f), .val (.int t), .val (.ref b1), .val (.ref b26), .unset, .unset, .unset, .unset, .unset] [(.int r)])) t_
    refine X80.ldcInt hx hown (mvT hZ (hw _ (List.mem_of_getElem? (i := 15) rfl))) (g := (mkF m_ 355 #[.val (.long vals), .second, .val (.long cs), .second, .val (.int r), .val (.int f), .val (.int t), .val (.ref b1), .val (.ref b26), .unset, .unset, .unset, .unset, .unset] [(.int r)])) rfl (hb hby at_355) _ ?_
    show Steps p_.tables e_ below (T80.setTop (mkF m_ 357 #[.val (.long vals), .second, .val (.long cs), .second, .val (.int r), .val (.int f), .val (.int t), .val (.ref b1), .val (.ref b26), .unset, .unset, .unset, .unset, .unset] [(.int (2147483647 : Int32)), (.int r)])) t_
    refine XS.iand X80.here hx rfl (hb hby at_357) rfl ?_
    show Steps p_.tables e_ below (T80.setTop (mkF m_ 358 #[.val (.long vals), .second, .val (.long cs), .second, .val (.int r), .val (.int f), .val (.int t), .val (.ref b1), .val (.ref b26), .unset, .unset, .unset, .unset, .unset] [(.int (r &&& (2147483647 : Int32)))])) t_
    refine XS.bipush X80.here hx rfl (hb hby at_358) ?_
    show Steps p_.tables e_ below (T80.setTop (mkF m_ 360 #[.val (.long vals), .second, .val (.long cs), .second, .val (.int r), .val (.int f), .val (.int t), .val (.ref b1), .val (.ref b26), .unset, .unset, .unset, .unset, .unset] [(.int (97 : Int32)), (.int (r &&& (2147483647 : Int32)))])) t_
    refine iremM X80 hx rfl (hb hby at_360) rfl (by decide) ?_
    show Steps p_.tables e_ below (T80.setTop (mkF m_ 361 #[.val (.long vals), .second, .val (.long cs), .second, .val (.int r), .val (.int f), .val (.int t), .val (.ref b1), .val (.ref b26), .unset, .unset, .unset, .unset, .unset] [(.int (own_r r))])) t_
    refine XS.istore X80.here hx rfl (hb hby at_361) rfl (l' := #[.val (.long vals), .second, .val (.long cs), .second, .val (.int r), .val (.int f), .val (.int t), .val (.ref b1), .val (.ref b26), .val (.int (own_r r)), .unset, .unset, .unset, .unset]) rfl ?_
    show Steps p_.tables e_ below (T80.setTop (mkF m_ 363 #[.val (.long vals), .second, .val (.long cs), .second, .val (.int r), .val (.int f), .val (.int t), .val (.ref b1), .val (.ref b26), .val (.int (own_r r)), .unset, .unset, .unset, .unset] [])) t_
    refine XS.iload X80.here hx rfl (hb hby at_363) rfl ?_
    show Steps p_.tables e_ below (T80.setTop (mkF m_ 365 #[.val (.long vals), .second, .val (.long cs), .second, .val (.int r), .val (.int f), .val (.int t), .val (.ref b1), .val (.ref b26), .val (.int (own_r r)), .unset, .unset, .unset, .unset] [(.int f)])) t_
    refine X80.ldcInt hx hown (mvT hZ (hw _ (List.mem_of_getElem? (i := 15) rfl))) (g := (mkF m_ 365 #[.val (.long vals), .second, .val (.long cs), .second, .val (.int r), .val (.int f), .val (.int t), .val (.ref b1), .val (.ref b26), .val (.int (own_r r)), .unset, .unset, .unset, .unset] [(.int f)])) rfl (hb hby at_365) _ ?_
    show Steps p_.tables e_ below (T80.setTop (mkF m_ 367 #[.val (.long vals), .second, .val (.long cs), .second, .val (.int r), .val (.int f), .val (.int t), .val (.ref b1), .val (.ref b26), .val (.int (own_r r)), .unset, .unset, .unset, .unset] [(.int (2147483647 : Int32)), (.int f)])) t_
    refine XS.iand X80.here hx rfl (hb hby at_367) rfl ?_
    show Steps p_.tables e_ below (T80.setTop (mkF m_ 368 #[.val (.long vals), .second, .val (.long cs), .second, .val (.int r), .val (.int f), .val (.int t), .val (.ref b1), .val (.ref b26), .val (.int (own_r r)), .unset, .unset, .unset, .unset] [(.int (f &&& (2147483647 : Int32)))])) t_
    refine XS.bipush X80.here hx rfl (hb hby at_368) ?_
    show Steps p_.tables e_ below (T80.setTop (mkF m_ 370 #[.val (.long vals), .second, .val (.long cs), .second, .val (.int r), .val (.int f), .val (.int t), .val (.ref b1), .val (.ref b26), .val (.int (own_r r)), .unset, .unset, .unset, .unset] [(.int (19 : Int32)), (.int (f &&& (2147483647 : Int32)))])) t_
    refine iremM X80 hx rfl (hb hby at_370) rfl (by decide) ?_
    show Steps p_.tables e_ below (T80.setTop (mkF m_ 371 #[.val (.long vals), .second, .val (.long cs), .second, .val (.int r), .val (.int f), .val (.int t), .val (.ref b1), .val (.ref b26), .val (.int (own_r r)), .unset, .unset, .unset, .unset] [(.int (own_f f))])) t_
    refine XS.istore X80.here hx rfl (hb hby at_371) rfl (l' := #[.val (.long vals), .second, .val (.long cs), .second, .val (.int r), .val (.int f), .val (.int t), .val (.ref b1), .val (.ref b26), .val (.int (own_r r)), .val (.int (own_f f)), .unset, .unset, .unset]) rfl ?_
    show Steps p_.tables e_ below (T80.setTop (mkF m_ 373 #[.val (.long vals), .second, .val (.long cs), .second, .val (.int r), .val (.int f), .val (.int t), .val (.ref b1), .val (.ref b26), .val (.int (own_r r)), .val (.int (own_f f)), .unset, .unset, .unset] [])) t_
    refine XS.iload X80.here hx rfl (hb hby at_373) rfl ?_
    show Steps p_.tables e_ below (T80.setTop (mkF m_ 375 #[.val (.long vals), .second, .val (.long cs), .second, .val (.int r), .val (.int f), .val (.int t), .val (.ref b1), .val (.ref b26), .val (.int (own_r r)), .val (.int (own_f f)), .unset, .unset, .unset] [(.int (own_f f))])) t_
    refine XS.iload X80.here hx rfl (hb hby at_375) rfl ?_
    show Steps p_.tables e_ below (T80.setTop (mkF m_ 377 #[.val (.long vals), .second, .val (.long cs), .second, .val (.int r), .val (.int f), .val (.int t), .val (.ref b1), .val (.ref b26), .val (.int (own_r r)), .val (.int (own_f f)), .unset, .unset, .unset] [(.int t), (.int (own_f f))])) t_
    refine X80.ldcInt hx hown (mvT hZ (hw _ (List.mem_of_getElem? (i := 15) rfl))) (g := (mkF m_ 377 #[.val (.long vals), .second, .val (.long cs), .second, .val (.int r), .val (.int f), .val (.int t), .val (.ref b1), .val (.ref b26), .val (.int (own_r r)), .val (.int (own_f f)), .unset, .unset, .unset] [(.int t), (.int (own_f f))])) rfl (hb hby at_377) _ ?_
    show Steps p_.tables e_ below (T80.setTop (mkF m_ 379 #[.val (.long vals), .second, .val (.long cs), .second, .val (.int r), .val (.int f), .val (.int t), .val (.ref b1), .val (.ref b26), .val (.int (own_r r)), .val (.int (own_f f)), .unset, .unset, .unset] [(.int (2147483647 : Int32)), (.int t), (.int (own_f f))])) t_
    refine XS.iand X80.here hx rfl (hb hby at_379) rfl ?_
    show Steps p_.tables e_ below (T80.setTop (mkF m_ 380 #[.val (.long vals), .second, .val (.long cs), .second, .val (.int r), .val (.int f), .val (.int t), .val (.ref b1), .val (.ref b26), .val (.int (own_r r)), .val (.int (own_f f)), .unset, .unset, .unset] [(.int (t &&& (2147483647 : Int32))), (.int (own_f f))])) t_
    refine XS.bipush X80.here hx rfl (hb hby at_380) ?_
    show Steps p_.tables e_ below (T80.setTop (mkF m_ 382 #[.val (.long vals), .second, .val (.long cs), .second, .val (.int r), .val (.int f), .val (.int t), .val (.ref b1), .val (.ref b26), .val (.int (own_r r)), .val (.int (own_f f)), .unset, .unset, .unset] [(.int (19 : Int32)), (.int (t &&& (2147483647 : Int32))), (.int (own_f f))])) t_
    refine XS.iload X80.here hx rfl (hb hby at_382) rfl ?_
    show Steps p_.tables e_ below (T80.setTop (mkF m_ 384 #[.val (.long vals), .second, .val (.long cs), .second, .val (.int r), .val (.int f), .val (.int t), .val (.ref b1), .val (.ref b26), .val (.int (own_r r)), .val (.int (own_f f)), .unset, .unset, .unset] [(.int (own_f f)), (.int (19 : Int32)), (.int (t &&& (2147483647 : Int32))), (.int (own_f f))])) t_
    refine XS.isub X80.here hx rfl (hb hby at_384) rfl ?_
    show Steps p_.tables e_ below (T80.setTop (mkF m_ 385 #[.val (.long vals), .second, .val (.long cs), .second, .val (.int r), .val (.int f), .val (.int t), .val (.ref b1), .val (.ref b26), .val (.int (own_r r)), .val (.int (own_f f)), .unset, .unset, .unset] [(.int ((19 : Int32) - (own_f f))), (.int (t &&& (2147483647 : Int32))), (.int (own_f f))])) t_
    refine iremM X80 hx rfl (hb hby at_385) rfl (own_nz19 f) ?_
    show Steps p_.tables e_ below (T80.setTop (mkF m_ 386 #[.val (.long vals), .second, .val (.long cs), .second, .val (.int r), .val (.int f), .val (.int t), .val (.ref b1), .val (.ref b26), .val (.int (own_r r)), .val (.int (own_f f)), .unset, .unset, .unset] [(.int ((t &&& (2147483647 : Int32)) % ((19 : Int32) - (own_f f)))), (.int (own_f f))])) t_
    refine XS.iadd X80.here hx rfl (hb hby at_386) rfl ?_
    show Steps p_.tables e_ below (T80.setTop (mkF m_ 387 #[.val (.long vals), .second, .val (.long cs), .second, .val (.int r), .val (.int f), .val (.int t), .val (.ref b1), .val (.ref b26), .val (.int (own_r r)), .val (.int (own_f f)), .unset, .unset, .unset] [(.int (own_t f t))])) t_
    refine XS.istore X80.here hx rfl (hb hby at_387) rfl (l' := #[.val (.long vals), .second, .val (.long cs), .second, .val (.int r), .val (.int f), .val (.int t), .val (.ref b1), .val (.ref b26), .val (.int (own_r r)), .val (.int (own_f f)), .val (.int (own_t f t)), .unset, .unset]) rfl ?_
    show Steps p_.tables e_ below (T80.setTop (mkF m_ 389 #[.val (.long vals), .second, .val (.long cs), .second, .val (.int r), .val (.int f), .val (.int t), .val (.ref b1), .val (.ref b26), .val (.int (own_r r)), .val (.int (own_f f)), .val (.int (own_t f t)), .unset, .unset] [])) t_
    refine XS.aload X80.here hx rfl (hb hby at_389) rfl rfl ?_
    show Steps p_.tables e_ below (T80.setTop (mkF m_ 391 #[.val (.long vals), .second, .val (.long cs), .second, .val (.int r), .val (.int f), .val (.int t), .val (.ref b1), .val (.ref b26), .val (.int (own_r r)), .val (.int (own_f f)), .val (.int (own_t f t)), .unset, .unset] [(.ref b1)])) t_
    refine XS.iload X80.here hx rfl (hb hby at_391) rfl ?_
    show Steps p_.tables e_ below (T80.setTop (mkF m_ 393 #[.val (.long vals), .second, .val (.long cs), .second, .val (.int r), .val (.int f), .val (.int t), .val (.ref b1), .val (.ref b26), .val (.int (own_r r)), .val (.int (own_f f)), .val (.int (own_t f t)), .unset, .unset] [(.int (own_r r)), (.ref b1)])) t_
    refine XS.aload X80.here hx rfl (hb hby at_393) rfl rfl ?_
    show Steps p_.tables e_ below (T80.setTop (mkF m_ 395 #[.val (.long vals), .second, .val (.long cs), .second, .val (.int r), .val (.int f), .val (.int t), .val (.ref b1), .val (.ref b26), .val (.int (own_r r)), .val (.int (own_f f)), .val (.int (own_t f t)), .unset, .unset] [(.ref b26), (.int (own_r r)), (.ref b1)])) t_
    refine XS.iload X80.here hx rfl (hb hby at_395) rfl ?_
    show Steps p_.tables e_ below (T80.setTop (mkF m_ 397 #[.val (.long vals), .second, .val (.long cs), .second, .val (.int r), .val (.int f), .val (.int t), .val (.ref b1), .val (.ref b26), .val (.int (own_r r)), .val (.int (own_f f)), .val (.int (own_t f t)), .unset, .unset] [(.int (own_f f)), (.ref b26), (.int (own_r r)), (.ref b1)])) t_
    refine XS.iload X80.here hx rfl (hb hby at_397) rfl ?_
    show Steps p_.tables e_ below (T80.setTop (mkF m_ 399 #[.val (.long vals), .second, .val (.long cs), .second, .val (.int r), .val (.int f), .val (.int t), .val (.ref b1), .val (.ref b26), .val (.int (own_r r)), .val (.int (own_f f)), .val (.int (own_t f t)), .unset, .unset] [(.int (own_t f t)), (.int (own_f f)), (.ref b26), (.int (own_r r)), (.ref b1)])) t_
    exact k_
  refine own_callS X80 hx hZ hown (hw _ (List.mem_of_getElem? (i := 16) rfl)) (hw _ (List.mem_of_getElem? (i := 17) rfl)) (hw _ (List.mem_of_getElem? (i := 18) rfl)) (hw _ (List.mem_of_getElem? (i := 19) rfl)) (by decide) [(.ref b1), (.int (own_r r)), (.ref b26), (.int (own_f f)), (.int (own_t f t))] [] (rm4 l Z a0 hw b1 (own_r r) b26 (own_f f) (own_t f t) k1 k26 (own_vals vals) (own_chars cs) (own_fn f) (own_tn f t) h80 n0 Z0 A_b1 A_b26 (own_hc cs) (own_hv vals) (own_hr r) (own_hf f) (own_ht f t) (own_hle f t) (own_h18 f t)) 0 (by decide) (by decide) e80 (by rw [hml]; rfl) (lenOf own_pd4 rfl) rfl (Nat.le_of_eq rfl) (hb hby at_399) (by decide) (by decide) ?_
  intro v81 T81 L81 X81 q81
  obtain ⟨rfl, N81q, e81⟩ := q81
  have N81 := Fr.app N80 N81q
  show own_Out p_ e_ below s_ _ _ _ T81 (mkF m_ 402 #[.val (.long vals), .second, .val (.long cs), .second, .val (.int r), .val (.int f), .val (.int t), .val (.ref b1), .val (.ref b26), .val (.int (own_r r)), .val (.int (own_f f)), .val (.int (own_t f t)), .unset, .unset] [(.int (own_fold (own_u (own_vals vals) (own_chars cs)) (own_r r) (own_fn f) (own_tn f t - own_fn f)))])
  refine own_st T81 (mkF m_ 419 #[.val (.long vals), .second, .val (.long cs), .second, .val (.int r), .val (.int f), .val (.int t), .val (.ref b1), .val (.ref b26), .val (.int (own_r r)), .val (.int (own_f f)), .val (.int (own_t f t)), .val (.int (own_fold (own_u (own_vals vals) (own_chars cs)) (own_r r) (own_fn f) (own_tn f t - own_fn f))), .val (.int (own_r r))] [(.int (own_t f t)), (.int (own_f f)), (.int (0 : Int32)), (.ref b26), (.ref b1), (.int (own_r r))]) (fun t_ k_ => ?_) ?_
  · refine XS.istore X81.here hx rfl (hb hby at_402) rfl (l' := #[.val (.long vals), .second, .val (.long cs), .second, .val (.int r), .val (.int f), .val (.int t), .val (.ref b1), .val (.ref b26), .val (.int (own_r r)), .val (.int (own_f f)), .val (.int (own_t f t)), .val (.int (own_fold (own_u (own_vals vals) (own_chars cs)) (own_r r) (own_fn f) (own_tn f t - own_fn f))), .unset]) rfl ?_
    show Steps p_.tables e_ below (T81.setTop (mkF m_ 404 #[.val (.long vals), .second, .val (.long cs), .second, .val (.int r), .val (.int f), .val (.int t), .val (.ref b1), .val (.ref b26), .val (.int (own_r r)), .val (.int (own_f f)), .val (.int (own_t f t)), .val (.int (own_fold (own_u (own_vals vals) (own_chars cs)) (own_r r) (own_fn f) (own_tn f t - own_fn f))), .unset] [])) t_
    refine XS.iload X81.here hx rfl (hb hby at_404) rfl ?_
    show Steps p_.tables e_ below (T81.setTop (mkF m_ 406 #[.val (.long vals), .second, .val (.long cs), .second, .val (.int r), .val (.int f), .val (.int t), .val (.ref b1), .val (.ref b26), .val (.int (own_r r)), .val (.int (own_f f)), .val (.int (own_t f t)), .val (.int (own_fold (own_u (own_vals vals) (own_chars cs)) (own_r r) (own_fn f) (own_tn f t - own_fn f))), .unset] [(.int (own_r r))])) t_
    refine XS.istore X81.here hx rfl (hb hby at_406) rfl (l' := #[.val (.long vals), .second, .val (.long cs), .second, .val (.int r), .val (.int f), .val (.int t), .val (.ref b1), .val (.ref b26), .val (.int (own_r r)), .val (.int (own_f f)), .val (.int (own_t f t)), .val (.int (own_fold (own_u (own_vals vals) (own_chars cs)) (own_r r) (own_fn f) (own_tn f t - own_fn f))), .val (.int (own_r r))]) rfl ?_
    show Steps p_.tables e_ below (T81.setTop (mkF m_ 408 #[.val (.long vals), .second, .val (.long cs), .second, .val (.int r), .val (.int f), .val (.int t), .val (.ref b1), .val (.ref b26), .val (.int (own_r r)), .val (.int (own_f f)), .val (.int (own_t f t)), .val (.int (own_fold (own_u (own_vals vals) (own_chars cs)) (own_r r) (own_fn f) (own_tn f t - own_fn f))), .val (.int (own_r r))] [])) t_
    refine XS.iload X81.here hx rfl (hb hby at_408) rfl ?_
    show Steps p_.tables e_ below (T81.setTop (mkF m_ 410 #[.val (.long vals), .second, .val (.long cs), .second, .val (.int r), .val (.int f), .val (.int t), .val (.ref b1), .val (.ref b26), .val (.int (own_r r)), .val (.int (own_f f)), .val (.int (own_t f t)), .val (.int (own_fold (own_u (own_vals vals) (own_chars cs)) (own_r r) (own_fn f) (own_tn f t - own_fn f))), .val (.int (own_r r))] [(.int (own_r r))])) t_
    refine XS.aload X81.here hx rfl (hb hby at_410) rfl rfl ?_
    show Steps p_.tables e_ below (T81.setTop (mkF m_ 412 #[.val (.long vals), .second, .val (.long cs), .second, .val (.int r), .val (.int f), .val (.int t), .val (.ref b1), .val (.ref b26), .val (.int (own_r r)), .val (.int (own_f f)), .val (.int (own_t f t)), .val (.int (own_fold (own_u (own_vals vals) (own_chars cs)) (own_r r) (own_fn f) (own_tn f t - own_fn f))), .val (.int (own_r r))] [(.ref b1), (.int (own_r r))])) t_
    refine XS.aload X81.here hx rfl (hb hby at_412) rfl rfl ?_
    show Steps p_.tables e_ below (T81.setTop (mkF m_ 414 #[.val (.long vals), .second, .val (.long cs), .second, .val (.int r), .val (.int f), .val (.int t), .val (.ref b1), .val (.ref b26), .val (.int (own_r r)), .val (.int (own_f f)), .val (.int (own_t f t)), .val (.int (own_fold (own_u (own_vals vals) (own_chars cs)) (own_r r) (own_fn f) (own_tn f t - own_fn f))), .val (.int (own_r r))] [(.ref b26), (.ref b1), (.int (own_r r))])) t_
    refine XS.iconst X81.here hx rfl (hb hby at_414) ?_
    show Steps p_.tables e_ below (T81.setTop (mkF m_ 415 #[.val (.long vals), .second, .val (.long cs), .second, .val (.int r), .val (.int f), .val (.int t), .val (.ref b1), .val (.ref b26), .val (.int (own_r r)), .val (.int (own_f f)), .val (.int (own_t f t)), .val (.int (own_fold (own_u (own_vals vals) (own_chars cs)) (own_r r) (own_fn f) (own_tn f t - own_fn f))), .val (.int (own_r r))] [(.int (0 : Int32)), (.ref b26), (.ref b1), (.int (own_r r))])) t_
    refine XS.iload X81.here hx rfl (hb hby at_415) rfl ?_
    show Steps p_.tables e_ below (T81.setTop (mkF m_ 417 #[.val (.long vals), .second, .val (.long cs), .second, .val (.int r), .val (.int f), .val (.int t), .val (.ref b1), .val (.ref b26), .val (.int (own_r r)), .val (.int (own_f f)), .val (.int (own_t f t)), .val (.int (own_fold (own_u (own_vals vals) (own_chars cs)) (own_r r) (own_fn f) (own_tn f t - own_fn f))), .val (.int (own_r r))] [(.int (own_f f)), (.int (0 : Int32)), (.ref b26), (.ref b1), (.int (own_r r))])) t_
    refine XS.iload X81.here hx rfl (hb hby at_417) rfl ?_
    show Steps p_.tables e_ below (T81.setTop (mkF m_ 419 #[.val (.long vals), .second, .val (.long cs), .second, .val (.int r), .val (.int f), .val (.int t), .val (.ref b1), .val (.ref b26), .val (.int (own_r r)), .val (.int (own_f f)), .val (.int (own_t f t)), .val (.int (own_fold (own_u (own_vals vals) (own_chars cs)) (own_r r) (own_fn f) (own_tn f t - own_fn f))), .val (.int (own_r r))] [(.int (own_t f t)), (.int (own_f f)), (.int (0 : Int32)), (.ref b26), (.ref b1), (.int (own_r r))])) t_
    exact k_
  refine own_callS X81 hx hZ hown (hw _ (List.mem_of_getElem? (i := 21) rfl)) (hw _ (List.mem_of_getElem? (i := 22) rfl)) (hw _ (List.mem_of_getElem? (i := 3) rfl)) (hw _ (List.mem_of_getElem? (i := 23) rfl)) (by decide) [(.int (own_r r)), (.ref b1), (.ref b26), (.int (0 : Int32)), (.int (own_f f)), (.int (own_t f t))] [] (rm5 l Z a0 hw (own_r r) b1 b26 (0 : Int32) (own_f f) (own_t f t) k1 k26 (own_vals vals) (own_chars cs) 0 h80 n0 Z0 A_b1 A_b26 (own_hc cs) (by decide) (by decide)) 0 (by decide) (by decide) e81 (by rw [hml]; rfl) (lenOf own_pd5 rfl) rfl (Nat.le_of_eq rfl) (hb hby at_419) (by decide) (by decide) ?_
  intro v82 T82 L82 X82 q82
  obtain ⟨rfl, N82q, e82⟩ := q82
  have N82 := Fr.app N81 N82q
  rw [show f5 (own_r r) (0 : Int32) (own_f f) (own_t f t) (own_u (own_vals vals) (own_chars cs) 0) = own_run vals cs r f t 1 from own_runS vals cs r f t (0 : Int32) 0 (by decide) (by decide)]
  show own_Out p_ e_ below s_ _ _ _ T82 (mkF m_ 422 #[.val (.long vals), .second, .val (.long cs), .second, .val (.int r), .val (.int f), .val (.int t), .val (.ref b1), .val (.ref b26), .val (.int (own_r r)), .val (.int (own_f f)), .val (.int (own_t f t)), .val (.int (own_fold (own_u (own_vals vals) (own_chars cs)) (own_r r) (own_fn f) (own_tn f t - own_fn f))), .val (.int (own_r r))] [(.int (own_run vals cs r f t 1))])
  refine own_st T82 (mkF m_ 435 #[.val (.long vals), .second, .val (.long cs), .second, .val (.int r), .val (.int f), .val (.int t), .val (.ref b1), .val (.ref b26), .val (.int (own_r r)), .val (.int (own_f f)), .val (.int (own_t f t)), .val (.int (own_fold (own_u (own_vals vals) (own_chars cs)) (own_r r) (own_fn f) (own_tn f t - own_fn f))), .val (.int (own_run vals cs r f t 1))] [(.int (own_t f t)), (.int (own_f f)), (.int (1 : Int32)), (.ref b26), (.ref b1), (.int (own_run vals cs r f t 1))]) (fun t_ k_ => ?_) ?_
  · refine XS.istore X82.here hx rfl (hb hby at_422) rfl (l' := #[.val (.long vals), .second, .val (.long cs), .second, .val (.int r), .val (.int f), .val (.int t), .val (.ref b1), .val (.ref b26), .val (.int (own_r r)), .val (.int (own_f f)), .val (.int (own_t f t)), .val (.int (own_fold (own_u (own_vals vals) (own_chars cs)) (own_r r) (own_fn f) (own_tn f t - own_fn f))), .val (.int (own_run vals cs r f t 1))]) rfl ?_
    show Steps p_.tables e_ below (T82.setTop (mkF m_ 424 #[.val (.long vals), .second, .val (.long cs), .second, .val (.int r), .val (.int f), .val (.int t), .val (.ref b1), .val (.ref b26), .val (.int (own_r r)), .val (.int (own_f f)), .val (.int (own_t f t)), .val (.int (own_fold (own_u (own_vals vals) (own_chars cs)) (own_r r) (own_fn f) (own_tn f t - own_fn f))), .val (.int (own_run vals cs r f t 1))] [])) t_
    refine XS.iload X82.here hx rfl (hb hby at_424) rfl ?_
    show Steps p_.tables e_ below (T82.setTop (mkF m_ 426 #[.val (.long vals), .second, .val (.long cs), .second, .val (.int r), .val (.int f), .val (.int t), .val (.ref b1), .val (.ref b26), .val (.int (own_r r)), .val (.int (own_f f)), .val (.int (own_t f t)), .val (.int (own_fold (own_u (own_vals vals) (own_chars cs)) (own_r r) (own_fn f) (own_tn f t - own_fn f))), .val (.int (own_run vals cs r f t 1))] [(.int (own_run vals cs r f t 1))])) t_
    refine XS.aload X82.here hx rfl (hb hby at_426) rfl rfl ?_
    show Steps p_.tables e_ below (T82.setTop (mkF m_ 428 #[.val (.long vals), .second, .val (.long cs), .second, .val (.int r), .val (.int f), .val (.int t), .val (.ref b1), .val (.ref b26), .val (.int (own_r r)), .val (.int (own_f f)), .val (.int (own_t f t)), .val (.int (own_fold (own_u (own_vals vals) (own_chars cs)) (own_r r) (own_fn f) (own_tn f t - own_fn f))), .val (.int (own_run vals cs r f t 1))] [(.ref b1), (.int (own_run vals cs r f t 1))])) t_
    refine XS.aload X82.here hx rfl (hb hby at_428) rfl rfl ?_
    show Steps p_.tables e_ below (T82.setTop (mkF m_ 430 #[.val (.long vals), .second, .val (.long cs), .second, .val (.int r), .val (.int f), .val (.int t), .val (.ref b1), .val (.ref b26), .val (.int (own_r r)), .val (.int (own_f f)), .val (.int (own_t f t)), .val (.int (own_fold (own_u (own_vals vals) (own_chars cs)) (own_r r) (own_fn f) (own_tn f t - own_fn f))), .val (.int (own_run vals cs r f t 1))] [(.ref b26), (.ref b1), (.int (own_run vals cs r f t 1))])) t_
    refine XS.iconst X82.here hx rfl (hb hby at_430) ?_
    show Steps p_.tables e_ below (T82.setTop (mkF m_ 431 #[.val (.long vals), .second, .val (.long cs), .second, .val (.int r), .val (.int f), .val (.int t), .val (.ref b1), .val (.ref b26), .val (.int (own_r r)), .val (.int (own_f f)), .val (.int (own_t f t)), .val (.int (own_fold (own_u (own_vals vals) (own_chars cs)) (own_r r) (own_fn f) (own_tn f t - own_fn f))), .val (.int (own_run vals cs r f t 1))] [(.int (1 : Int32)), (.ref b26), (.ref b1), (.int (own_run vals cs r f t 1))])) t_
    refine XS.iload X82.here hx rfl (hb hby at_431) rfl ?_
    show Steps p_.tables e_ below (T82.setTop (mkF m_ 433 #[.val (.long vals), .second, .val (.long cs), .second, .val (.int r), .val (.int f), .val (.int t), .val (.ref b1), .val (.ref b26), .val (.int (own_r r)), .val (.int (own_f f)), .val (.int (own_t f t)), .val (.int (own_fold (own_u (own_vals vals) (own_chars cs)) (own_r r) (own_fn f) (own_tn f t - own_fn f))), .val (.int (own_run vals cs r f t 1))] [(.int (own_f f)), (.int (1 : Int32)), (.ref b26), (.ref b1), (.int (own_run vals cs r f t 1))])) t_
    refine XS.iload X82.here hx rfl (hb hby at_433) rfl ?_
    show Steps p_.tables e_ below (T82.setTop (mkF m_ 435 #[.val (.long vals), .second, .val (.long cs), .second, .val (.int r), .val (.int f), .val (.int t), .val (.ref b1), .val (.ref b26), .val (.int (own_r r)), .val (.int (own_f f)), .val (.int (own_t f t)), .val (.int (own_fold (own_u (own_vals vals) (own_chars cs)) (own_r r) (own_fn f) (own_tn f t - own_fn f))), .val (.int (own_run vals cs r f t 1))] [(.int (own_t f t)), (.int (own_f f)), (.int (1 : Int32)), (.ref b26), (.ref b1), (.int (own_run vals cs r f t 1))])) t_
    exact k_
  refine own_callS X82 hx hZ hown (hw _ (List.mem_of_getElem? (i := 21) rfl)) (hw _ (List.mem_of_getElem? (i := 22) rfl)) (hw _ (List.mem_of_getElem? (i := 3) rfl)) (hw _ (List.mem_of_getElem? (i := 23) rfl)) (by decide) [(.int (own_run vals cs r f t 1)), (.ref b1), (.ref b26), (.int (1 : Int32)), (.int (own_f f)), (.int (own_t f t))] [] (rm5 l Z a0 hw (own_run vals cs r f t 1) b1 b26 (1 : Int32) (own_f f) (own_t f t) k1 k26 (own_vals vals) (own_chars cs) 1 h80 n0 Z0 A_b1 A_b26 (own_hc cs) (by decide) (by decide)) 0 (by decide) (by decide) e82 (by rw [hml]; rfl) (lenOf own_pd5 rfl) rfl (Nat.le_of_eq rfl) (hb hby at_435) (by decide) (by decide) ?_
  intro v83 T83 L83 X83 q83
  obtain ⟨rfl, N83q, e83⟩ := q83
  have N83 := Fr.app N82 N83q
  rw [show f5 (own_run vals cs r f t 1) (1 : Int32) (own_f f) (own_t f t) (own_u (own_vals vals) (own_chars cs) 1) = own_run vals cs r f t 2 from own_runS vals cs r f t (1 : Int32) 1 (by decide) (by decide)]
  show own_Out p_ e_ below s_ _ _ _ T83 (mkF m_ 438 #[.val (.long vals), .second, .val (.long cs), .second, .val (.int r), .val (.int f), .val (.int t), .val (.ref b1), .val (.ref b26), .val (.int (own_r r)), .val (.int (own_f f)), .val (.int (own_t f t)), .val (.int (own_fold (own_u (own_vals vals) (own_chars cs)) (own_r r) (own_fn f) (own_tn f t - own_fn f))), .val (.int (own_run vals cs r f t 1))] [(.int (own_run vals cs r f t 2))])
  refine own_st T83 (mkF m_ 451 #[.val (.long vals), .second, .val (.long cs), .second, .val (.int r), .val (.int f), .val (.int t), .val (.ref b1), .val (.ref b26), .val (.int (own_r r)), .val (.int (own_f f)), .val (.int (own_t f t)), .val (.int (own_fold (own_u (own_vals vals) (own_chars cs)) (own_r r) (own_fn f) (own_tn f t - own_fn f))), .val (.int (own_run vals cs r f t 2))] [(.int (own_t f t)), (.int (own_f f)), (.int (2 : Int32)), (.ref b26), (.ref b1), (.int (own_run vals cs r f t 2))]) (fun t_ k_ => ?_) ?_
  · refine XS.istore X83.here hx rfl (hb hby at_438) rfl (l' := #[.val (.long vals), .second, .val (.long cs), .second, .val (.int r), .val (.int f), .val (.int t), .val (.ref b1), .val (.ref b26), .val (.int (own_r r)), .val (.int (own_f f)), .val (.int (own_t f t)), .val (.int (own_fold (own_u (own_vals vals) (own_chars cs)) (own_r r) (own_fn f) (own_tn f t - own_fn f))), .val (.int (own_run vals cs r f t 2))]) rfl ?_
    show Steps p_.tables e_ below (T83.setTop (mkF m_ 440 #[.val (.long vals), .second, .val (.long cs), .second, .val (.int r), .val (.int f), .val (.int t), .val (.ref b1), .val (.ref b26), .val (.int (own_r r)), .val (.int (own_f f)), .val (.int (own_t f t)), .val (.int (own_fold (own_u (own_vals vals) (own_chars cs)) (own_r r) (own_fn f) (own_tn f t - own_fn f))), .val (.int (own_run vals cs r f t 2))] [])) t_
    refine XS.iload X83.here hx rfl (hb hby at_440) rfl ?_
    show Steps p_.tables e_ below (T83.setTop (mkF m_ 442 #[.val (.long vals), .second, .val (.long cs), .second, .val (.int r), .val (.int f), .val (.int t), .val (.ref b1), .val (.ref b26), .val (.int (own_r r)), .val (.int (own_f f)), .val (.int (own_t f t)), .val (.int (own_fold (own_u (own_vals vals) (own_chars cs)) (own_r r) (own_fn f) (own_tn f t - own_fn f))), .val (.int (own_run vals cs r f t 2))] [(.int (own_run vals cs r f t 2))])) t_
    refine XS.aload X83.here hx rfl (hb hby at_442) rfl rfl ?_
    show Steps p_.tables e_ below (T83.setTop (mkF m_ 444 #[.val (.long vals), .second, .val (.long cs), .second, .val (.int r), .val (.int f), .val (.int t), .val (.ref b1), .val (.ref b26), .val (.int (own_r r)), .val (.int (own_f f)), .val (.int (own_t f t)), .val (.int (own_fold (own_u (own_vals vals) (own_chars cs)) (own_r r) (own_fn f) (own_tn f t - own_fn f))), .val (.int (own_run vals cs r f t 2))] [(.ref b1), (.int (own_run vals cs r f t 2))])) t_
    refine XS.aload X83.here hx rfl (hb hby at_444) rfl rfl ?_
    show Steps p_.tables e_ below (T83.setTop (mkF m_ 446 #[.val (.long vals), .second, .val (.long cs), .second, .val (.int r), .val (.int f), .val (.int t), .val (.ref b1), .val (.ref b26), .val (.int (own_r r)), .val (.int (own_f f)), .val (.int (own_t f t)), .val (.int (own_fold (own_u (own_vals vals) (own_chars cs)) (own_r r) (own_fn f) (own_tn f t - own_fn f))), .val (.int (own_run vals cs r f t 2))] [(.ref b26), (.ref b1), (.int (own_run vals cs r f t 2))])) t_
    refine XS.iconst X83.here hx rfl (hb hby at_446) ?_
    show Steps p_.tables e_ below (T83.setTop (mkF m_ 447 #[.val (.long vals), .second, .val (.long cs), .second, .val (.int r), .val (.int f), .val (.int t), .val (.ref b1), .val (.ref b26), .val (.int (own_r r)), .val (.int (own_f f)), .val (.int (own_t f t)), .val (.int (own_fold (own_u (own_vals vals) (own_chars cs)) (own_r r) (own_fn f) (own_tn f t - own_fn f))), .val (.int (own_run vals cs r f t 2))] [(.int (2 : Int32)), (.ref b26), (.ref b1), (.int (own_run vals cs r f t 2))])) t_
    refine XS.iload X83.here hx rfl (hb hby at_447) rfl ?_
    show Steps p_.tables e_ below (T83.setTop (mkF m_ 449 #[.val (.long vals), .second, .val (.long cs), .second, .val (.int r), .val (.int f), .val (.int t), .val (.ref b1), .val (.ref b26), .val (.int (own_r r)), .val (.int (own_f f)), .val (.int (own_t f t)), .val (.int (own_fold (own_u (own_vals vals) (own_chars cs)) (own_r r) (own_fn f) (own_tn f t - own_fn f))), .val (.int (own_run vals cs r f t 2))] [(.int (own_f f)), (.int (2 : Int32)), (.ref b26), (.ref b1), (.int (own_run vals cs r f t 2))])) t_
    refine XS.iload X83.here hx rfl (hb hby at_449) rfl ?_
    show Steps p_.tables e_ below (T83.setTop (mkF m_ 451 #[.val (.long vals), .second, .val (.long cs), .second, .val (.int r), .val (.int f), .val (.int t), .val (.ref b1), .val (.ref b26), .val (.int (own_r r)), .val (.int (own_f f)), .val (.int (own_t f t)), .val (.int (own_fold (own_u (own_vals vals) (own_chars cs)) (own_r r) (own_fn f) (own_tn f t - own_fn f))), .val (.int (own_run vals cs r f t 2))] [(.int (own_t f t)), (.int (own_f f)), (.int (2 : Int32)), (.ref b26), (.ref b1), (.int (own_run vals cs r f t 2))])) t_
    exact k_
  refine own_callS X83 hx hZ hown (hw _ (List.mem_of_getElem? (i := 21) rfl)) (hw _ (List.mem_of_getElem? (i := 22) rfl)) (hw _ (List.mem_of_getElem? (i := 3) rfl)) (hw _ (List.mem_of_getElem? (i := 23) rfl)) (by decide) [(.int (own_run vals cs r f t 2)), (.ref b1), (.ref b26), (.int (2 : Int32)), (.int (own_f f)), (.int (own_t f t))] [] (rm5 l Z a0 hw (own_run vals cs r f t 2) b1 b26 (2 : Int32) (own_f f) (own_t f t) k1 k26 (own_vals vals) (own_chars cs) 2 h80 n0 Z0 A_b1 A_b26 (own_hc cs) (by decide) (by decide)) 0 (by decide) (by decide) e83 (by rw [hml]; rfl) (lenOf own_pd5 rfl) rfl (Nat.le_of_eq rfl) (hb hby at_451) (by decide) (by decide) ?_
  intro v84 T84 L84 X84 q84
  obtain ⟨rfl, N84q, e84⟩ := q84
  have N84 := Fr.app N83 N84q
  rw [show f5 (own_run vals cs r f t 2) (2 : Int32) (own_f f) (own_t f t) (own_u (own_vals vals) (own_chars cs) 2) = own_run vals cs r f t 3 from own_runS vals cs r f t (2 : Int32) 2 (by decide) (by decide)]
  show own_Out p_ e_ below s_ _ _ _ T84 (mkF m_ 454 #[.val (.long vals), .second, .val (.long cs), .second, .val (.int r), .val (.int f), .val (.int t), .val (.ref b1), .val (.ref b26), .val (.int (own_r r)), .val (.int (own_f f)), .val (.int (own_t f t)), .val (.int (own_fold (own_u (own_vals vals) (own_chars cs)) (own_r r) (own_fn f) (own_tn f t - own_fn f))), .val (.int (own_run vals cs r f t 2))] [(.int (own_run vals cs r f t 3))])
  refine own_st T84 (mkF m_ 467 #[.val (.long vals), .second, .val (.long cs), .second, .val (.int r), .val (.int f), .val (.int t), .val (.ref b1), .val (.ref b26), .val (.int (own_r r)), .val (.int (own_f f)), .val (.int (own_t f t)), .val (.int (own_fold (own_u (own_vals vals) (own_chars cs)) (own_r r) (own_fn f) (own_tn f t - own_fn f))), .val (.int (own_run vals cs r f t 3))] [(.int (own_t f t)), (.int (own_f f)), (.int (3 : Int32)), (.ref b26), (.ref b1), (.int (own_run vals cs r f t 3))]) (fun t_ k_ => ?_) ?_
  · refine XS.istore X84.here hx rfl (hb hby at_454) rfl (l' := #[.val (.long vals), .second, .val (.long cs), .second, .val (.int r), .val (.int f), .val (.int t), .val (.ref b1), .val (.ref b26), .val (.int (own_r r)), .val (.int (own_f f)), .val (.int (own_t f t)), .val (.int (own_fold (own_u (own_vals vals) (own_chars cs)) (own_r r) (own_fn f) (own_tn f t - own_fn f))), .val (.int (own_run vals cs r f t 3))]) rfl ?_
    show Steps p_.tables e_ below (T84.setTop (mkF m_ 456 #[.val (.long vals), .second, .val (.long cs), .second, .val (.int r), .val (.int f), .val (.int t), .val (.ref b1), .val (.ref b26), .val (.int (own_r r)), .val (.int (own_f f)), .val (.int (own_t f t)), .val (.int (own_fold (own_u (own_vals vals) (own_chars cs)) (own_r r) (own_fn f) (own_tn f t - own_fn f))), .val (.int (own_run vals cs r f t 3))] [])) t_
    refine XS.iload X84.here hx rfl (hb hby at_456) rfl ?_
    show Steps p_.tables e_ below (T84.setTop (mkF m_ 458 #[.val (.long vals), .second, .val (.long cs), .second, .val (.int r), .val (.int f), .val (.int t), .val (.ref b1), .val (.ref b26), .val (.int (own_r r)), .val (.int (own_f f)), .val (.int (own_t f t)), .val (.int (own_fold (own_u (own_vals vals) (own_chars cs)) (own_r r) (own_fn f) (own_tn f t - own_fn f))), .val (.int (own_run vals cs r f t 3))] [(.int (own_run vals cs r f t 3))])) t_
    refine XS.aload X84.here hx rfl (hb hby at_458) rfl rfl ?_
    show Steps p_.tables e_ below (T84.setTop (mkF m_ 460 #[.val (.long vals), .second, .val (.long cs), .second, .val (.int r), .val (.int f), .val (.int t), .val (.ref b1), .val (.ref b26), .val (.int (own_r r)), .val (.int (own_f f)), .val (.int (own_t f t)), .val (.int (own_fold (own_u (own_vals vals) (own_chars cs)) (own_r r) (own_fn f) (own_tn f t - own_fn f))), .val (.int (own_run vals cs r f t 3))] [(.ref b1), (.int (own_run vals cs r f t 3))])) t_
    refine XS.aload X84.here hx rfl (hb hby at_460) rfl rfl ?_
    show Steps p_.tables e_ below (T84.setTop (mkF m_ 462 #[.val (.long vals), .second, .val (.long cs), .second, .val (.int r), .val (.int f), .val (.int t), .val (.ref b1), .val (.ref b26), .val (.int (own_r r)), .val (.int (own_f f)), .val (.int (own_t f t)), .val (.int (own_fold (own_u (own_vals vals) (own_chars cs)) (own_r r) (own_fn f) (own_tn f t - own_fn f))), .val (.int (own_run vals cs r f t 3))] [(.ref b26), (.ref b1), (.int (own_run vals cs r f t 3))])) t_
    refine XS.iconst X84.here hx rfl (hb hby at_462) ?_
    show Steps p_.tables e_ below (T84.setTop (mkF m_ 463 #[.val (.long vals), .second, .val (.long cs), .second, .val (.int r), .val (.int f), .val (.int t), .val (.ref b1), .val (.ref b26), .val (.int (own_r r)), .val (.int (own_f f)), .val (.int (own_t f t)), .val (.int (own_fold (own_u (own_vals vals) (own_chars cs)) (own_r r) (own_fn f) (own_tn f t - own_fn f))), .val (.int (own_run vals cs r f t 3))] [(.int (3 : Int32)), (.ref b26), (.ref b1), (.int (own_run vals cs r f t 3))])) t_
    refine XS.iload X84.here hx rfl (hb hby at_463) rfl ?_
    show Steps p_.tables e_ below (T84.setTop (mkF m_ 465 #[.val (.long vals), .second, .val (.long cs), .second, .val (.int r), .val (.int f), .val (.int t), .val (.ref b1), .val (.ref b26), .val (.int (own_r r)), .val (.int (own_f f)), .val (.int (own_t f t)), .val (.int (own_fold (own_u (own_vals vals) (own_chars cs)) (own_r r) (own_fn f) (own_tn f t - own_fn f))), .val (.int (own_run vals cs r f t 3))] [(.int (own_f f)), (.int (3 : Int32)), (.ref b26), (.ref b1), (.int (own_run vals cs r f t 3))])) t_
    refine XS.iload X84.here hx rfl (hb hby at_465) rfl ?_
    show Steps p_.tables e_ below (T84.setTop (mkF m_ 467 #[.val (.long vals), .second, .val (.long cs), .second, .val (.int r), .val (.int f), .val (.int t), .val (.ref b1), .val (.ref b26), .val (.int (own_r r)), .val (.int (own_f f)), .val (.int (own_t f t)), .val (.int (own_fold (own_u (own_vals vals) (own_chars cs)) (own_r r) (own_fn f) (own_tn f t - own_fn f))), .val (.int (own_run vals cs r f t 3))] [(.int (own_t f t)), (.int (own_f f)), (.int (3 : Int32)), (.ref b26), (.ref b1), (.int (own_run vals cs r f t 3))])) t_
    exact k_
  refine own_callS X84 hx hZ hown (hw _ (List.mem_of_getElem? (i := 21) rfl)) (hw _ (List.mem_of_getElem? (i := 22) rfl)) (hw _ (List.mem_of_getElem? (i := 3) rfl)) (hw _ (List.mem_of_getElem? (i := 23) rfl)) (by decide) [(.int (own_run vals cs r f t 3)), (.ref b1), (.ref b26), (.int (3 : Int32)), (.int (own_f f)), (.int (own_t f t))] [] (rm5 l Z a0 hw (own_run vals cs r f t 3) b1 b26 (3 : Int32) (own_f f) (own_t f t) k1 k26 (own_vals vals) (own_chars cs) 3 h80 n0 Z0 A_b1 A_b26 (own_hc cs) (by decide) (by decide)) 0 (by decide) (by decide) e84 (by rw [hml]; rfl) (lenOf own_pd5 rfl) rfl (Nat.le_of_eq rfl) (hb hby at_467) (by decide) (by decide) ?_
  intro v85 T85 L85 X85 q85
  obtain ⟨rfl, N85q, e85⟩ := q85
  have N85 := Fr.app N84 N85q
  rw [show f5 (own_run vals cs r f t 3) (3 : Int32) (own_f f) (own_t f t) (own_u (own_vals vals) (own_chars cs) 3) = own_run vals cs r f t 4 from own_runS vals cs r f t (3 : Int32) 3 (by decide) (by decide)]
  show own_Out p_ e_ below s_ _ _ _ T85 (mkF m_ 470 #[.val (.long vals), .second, .val (.long cs), .second, .val (.int r), .val (.int f), .val (.int t), .val (.ref b1), .val (.ref b26), .val (.int (own_r r)), .val (.int (own_f f)), .val (.int (own_t f t)), .val (.int (own_fold (own_u (own_vals vals) (own_chars cs)) (own_r r) (own_fn f) (own_tn f t - own_fn f))), .val (.int (own_run vals cs r f t 3))] [(.int (own_run vals cs r f t 4))])
  refine own_st T85 (mkF m_ 483 #[.val (.long vals), .second, .val (.long cs), .second, .val (.int r), .val (.int f), .val (.int t), .val (.ref b1), .val (.ref b26), .val (.int (own_r r)), .val (.int (own_f f)), .val (.int (own_t f t)), .val (.int (own_fold (own_u (own_vals vals) (own_chars cs)) (own_r r) (own_fn f) (own_tn f t - own_fn f))), .val (.int (own_run vals cs r f t 4))] [(.int (own_t f t)), (.int (own_f f)), (.int (4 : Int32)), (.ref b26), (.ref b1), (.int (own_run vals cs r f t 4))]) (fun t_ k_ => ?_) ?_
  · refine XS.istore X85.here hx rfl (hb hby at_470) rfl (l' := #[.val (.long vals), .second, .val (.long cs), .second, .val (.int r), .val (.int f), .val (.int t), .val (.ref b1), .val (.ref b26), .val (.int (own_r r)), .val (.int (own_f f)), .val (.int (own_t f t)), .val (.int (own_fold (own_u (own_vals vals) (own_chars cs)) (own_r r) (own_fn f) (own_tn f t - own_fn f))), .val (.int (own_run vals cs r f t 4))]) rfl ?_
    show Steps p_.tables e_ below (T85.setTop (mkF m_ 472 #[.val (.long vals), .second, .val (.long cs), .second, .val (.int r), .val (.int f), .val (.int t), .val (.ref b1), .val (.ref b26), .val (.int (own_r r)), .val (.int (own_f f)), .val (.int (own_t f t)), .val (.int (own_fold (own_u (own_vals vals) (own_chars cs)) (own_r r) (own_fn f) (own_tn f t - own_fn f))), .val (.int (own_run vals cs r f t 4))] [])) t_
    refine XS.iload X85.here hx rfl (hb hby at_472) rfl ?_
    show Steps p_.tables e_ below (T85.setTop (mkF m_ 474 #[.val (.long vals), .second, .val (.long cs), .second, .val (.int r), .val (.int f), .val (.int t), .val (.ref b1), .val (.ref b26), .val (.int (own_r r)), .val (.int (own_f f)), .val (.int (own_t f t)), .val (.int (own_fold (own_u (own_vals vals) (own_chars cs)) (own_r r) (own_fn f) (own_tn f t - own_fn f))), .val (.int (own_run vals cs r f t 4))] [(.int (own_run vals cs r f t 4))])) t_
    refine XS.aload X85.here hx rfl (hb hby at_474) rfl rfl ?_
    show Steps p_.tables e_ below (T85.setTop (mkF m_ 476 #[.val (.long vals), .second, .val (.long cs), .second, .val (.int r), .val (.int f), .val (.int t), .val (.ref b1), .val (.ref b26), .val (.int (own_r r)), .val (.int (own_f f)), .val (.int (own_t f t)), .val (.int (own_fold (own_u (own_vals vals) (own_chars cs)) (own_r r) (own_fn f) (own_tn f t - own_fn f))), .val (.int (own_run vals cs r f t 4))] [(.ref b1), (.int (own_run vals cs r f t 4))])) t_
    refine XS.aload X85.here hx rfl (hb hby at_476) rfl rfl ?_
    show Steps p_.tables e_ below (T85.setTop (mkF m_ 478 #[.val (.long vals), .second, .val (.long cs), .second, .val (.int r), .val (.int f), .val (.int t), .val (.ref b1), .val (.ref b26), .val (.int (own_r r)), .val (.int (own_f f)), .val (.int (own_t f t)), .val (.int (own_fold (own_u (own_vals vals) (own_chars cs)) (own_r r) (own_fn f) (own_tn f t - own_fn f))), .val (.int (own_run vals cs r f t 4))] [(.ref b26), (.ref b1), (.int (own_run vals cs r f t 4))])) t_
    refine XS.iconst X85.here hx rfl (hb hby at_478) ?_
    show Steps p_.tables e_ below (T85.setTop (mkF m_ 479 #[.val (.long vals), .second, .val (.long cs), .second, .val (.int r), .val (.int f), .val (.int t), .val (.ref b1), .val (.ref b26), .val (.int (own_r r)), .val (.int (own_f f)), .val (.int (own_t f t)), .val (.int (own_fold (own_u (own_vals vals) (own_chars cs)) (own_r r) (own_fn f) (own_tn f t - own_fn f))), .val (.int (own_run vals cs r f t 4))] [(.int (4 : Int32)), (.ref b26), (.ref b1), (.int (own_run vals cs r f t 4))])) t_
    refine XS.iload X85.here hx rfl (hb hby at_479) rfl ?_
    show Steps p_.tables e_ below (T85.setTop (mkF m_ 481 #[.val (.long vals), .second, .val (.long cs), .second, .val (.int r), .val (.int f), .val (.int t), .val (.ref b1), .val (.ref b26), .val (.int (own_r r)), .val (.int (own_f f)), .val (.int (own_t f t)), .val (.int (own_fold (own_u (own_vals vals) (own_chars cs)) (own_r r) (own_fn f) (own_tn f t - own_fn f))), .val (.int (own_run vals cs r f t 4))] [(.int (own_f f)), (.int (4 : Int32)), (.ref b26), (.ref b1), (.int (own_run vals cs r f t 4))])) t_
    refine XS.iload X85.here hx rfl (hb hby at_481) rfl ?_
    show Steps p_.tables e_ below (T85.setTop (mkF m_ 483 #[.val (.long vals), .second, .val (.long cs), .second, .val (.int r), .val (.int f), .val (.int t), .val (.ref b1), .val (.ref b26), .val (.int (own_r r)), .val (.int (own_f f)), .val (.int (own_t f t)), .val (.int (own_fold (own_u (own_vals vals) (own_chars cs)) (own_r r) (own_fn f) (own_tn f t - own_fn f))), .val (.int (own_run vals cs r f t 4))] [(.int (own_t f t)), (.int (own_f f)), (.int (4 : Int32)), (.ref b26), (.ref b1), (.int (own_run vals cs r f t 4))])) t_
    exact k_
  refine own_callS X85 hx hZ hown (hw _ (List.mem_of_getElem? (i := 21) rfl)) (hw _ (List.mem_of_getElem? (i := 22) rfl)) (hw _ (List.mem_of_getElem? (i := 3) rfl)) (hw _ (List.mem_of_getElem? (i := 23) rfl)) (by decide) [(.int (own_run vals cs r f t 4)), (.ref b1), (.ref b26), (.int (4 : Int32)), (.int (own_f f)), (.int (own_t f t))] [] (rm5 l Z a0 hw (own_run vals cs r f t 4) b1 b26 (4 : Int32) (own_f f) (own_t f t) k1 k26 (own_vals vals) (own_chars cs) 4 h80 n0 Z0 A_b1 A_b26 (own_hc cs) (by decide) (by decide)) 0 (by decide) (by decide) e85 (by rw [hml]; rfl) (lenOf own_pd5 rfl) rfl (Nat.le_of_eq rfl) (hb hby at_483) (by decide) (by decide) ?_
  intro v86 T86 L86 X86 q86
  obtain ⟨rfl, N86q, e86⟩ := q86
  have N86 := Fr.app N85 N86q
  rw [show f5 (own_run vals cs r f t 4) (4 : Int32) (own_f f) (own_t f t) (own_u (own_vals vals) (own_chars cs) 4) = own_run vals cs r f t 5 from own_runS vals cs r f t (4 : Int32) 4 (by decide) (by decide)]
  show own_Out p_ e_ below s_ _ _ _ T86 (mkF m_ 486 #[.val (.long vals), .second, .val (.long cs), .second, .val (.int r), .val (.int f), .val (.int t), .val (.ref b1), .val (.ref b26), .val (.int (own_r r)), .val (.int (own_f f)), .val (.int (own_t f t)), .val (.int (own_fold (own_u (own_vals vals) (own_chars cs)) (own_r r) (own_fn f) (own_tn f t - own_fn f))), .val (.int (own_run vals cs r f t 4))] [(.int (own_run vals cs r f t 5))])
  refine own_st T86 (mkF m_ 499 #[.val (.long vals), .second, .val (.long cs), .second, .val (.int r), .val (.int f), .val (.int t), .val (.ref b1), .val (.ref b26), .val (.int (own_r r)), .val (.int (own_f f)), .val (.int (own_t f t)), .val (.int (own_fold (own_u (own_vals vals) (own_chars cs)) (own_r r) (own_fn f) (own_tn f t - own_fn f))), .val (.int (own_run vals cs r f t 5))] [(.int (own_t f t)), (.int (own_f f)), (.int (5 : Int32)), (.ref b26), (.ref b1), (.int (own_run vals cs r f t 5))]) (fun t_ k_ => ?_) ?_
  · refine XS.istore X86.here hx rfl (hb hby at_486) rfl (l' := #[.val (.long vals), .second, .val (.long cs), .second, .val (.int r), .val (.int f), .val (.int t), .val (.ref b1), .val (.ref b26), .val (.int (own_r r)), .val (.int (own_f f)), .val (.int (own_t f t)), .val (.int (own_fold (own_u (own_vals vals) (own_chars cs)) (own_r r) (own_fn f) (own_tn f t - own_fn f))), .val (.int (own_run vals cs r f t 5))]) rfl ?_
    show Steps p_.tables e_ below (T86.setTop (mkF m_ 488 #[.val (.long vals), .second, .val (.long cs), .second, .val (.int r), .val (.int f), .val (.int t), .val (.ref b1), .val (.ref b26), .val (.int (own_r r)), .val (.int (own_f f)), .val (.int (own_t f t)), .val (.int (own_fold (own_u (own_vals vals) (own_chars cs)) (own_r r) (own_fn f) (own_tn f t - own_fn f))), .val (.int (own_run vals cs r f t 5))] [])) t_
    refine XS.iload X86.here hx rfl (hb hby at_488) rfl ?_
    show Steps p_.tables e_ below (T86.setTop (mkF m_ 490 #[.val (.long vals), .second, .val (.long cs), .second, .val (.int r), .val (.int f), .val (.int t), .val (.ref b1), .val (.ref b26), .val (.int (own_r r)), .val (.int (own_f f)), .val (.int (own_t f t)), .val (.int (own_fold (own_u (own_vals vals) (own_chars cs)) (own_r r) (own_fn f) (own_tn f t - own_fn f))), .val (.int (own_run vals cs r f t 5))] [(.int (own_run vals cs r f t 5))])) t_
    refine XS.aload X86.here hx rfl (hb hby at_490) rfl rfl ?_
    show Steps p_.tables e_ below (T86.setTop (mkF m_ 492 #[.val (.long vals), .second, .val (.long cs), .second, .val (.int r), .val (.int f), .val (.int t), .val (.ref b1), .val (.ref b26), .val (.int (own_r r)), .val (.int (own_f f)), .val (.int (own_t f t)), .val (.int (own_fold (own_u (own_vals vals) (own_chars cs)) (own_r r) (own_fn f) (own_tn f t - own_fn f))), .val (.int (own_run vals cs r f t 5))] [(.ref b1), (.int (own_run vals cs r f t 5))])) t_
    refine XS.aload X86.here hx rfl (hb hby at_492) rfl rfl ?_
    show Steps p_.tables e_ below (T86.setTop (mkF m_ 494 #[.val (.long vals), .second, .val (.long cs), .second, .val (.int r), .val (.int f), .val (.int t), .val (.ref b1), .val (.ref b26), .val (.int (own_r r)), .val (.int (own_f f)), .val (.int (own_t f t)), .val (.int (own_fold (own_u (own_vals vals) (own_chars cs)) (own_r r) (own_fn f) (own_tn f t - own_fn f))), .val (.int (own_run vals cs r f t 5))] [(.ref b26), (.ref b1), (.int (own_run vals cs r f t 5))])) t_
    refine XS.iconst X86.here hx rfl (hb hby at_494) ?_
    show Steps p_.tables e_ below (T86.setTop (mkF m_ 495 #[.val (.long vals), .second, .val (.long cs), .second, .val (.int r), .val (.int f), .val (.int t), .val (.ref b1), .val (.ref b26), .val (.int (own_r r)), .val (.int (own_f f)), .val (.int (own_t f t)), .val (.int (own_fold (own_u (own_vals vals) (own_chars cs)) (own_r r) (own_fn f) (own_tn f t - own_fn f))), .val (.int (own_run vals cs r f t 5))] [(.int (5 : Int32)), (.ref b26), (.ref b1), (.int (own_run vals cs r f t 5))])) t_
    refine XS.iload X86.here hx rfl (hb hby at_495) rfl ?_
    show Steps p_.tables e_ below (T86.setTop (mkF m_ 497 #[.val (.long vals), .second, .val (.long cs), .second, .val (.int r), .val (.int f), .val (.int t), .val (.ref b1), .val (.ref b26), .val (.int (own_r r)), .val (.int (own_f f)), .val (.int (own_t f t)), .val (.int (own_fold (own_u (own_vals vals) (own_chars cs)) (own_r r) (own_fn f) (own_tn f t - own_fn f))), .val (.int (own_run vals cs r f t 5))] [(.int (own_f f)), (.int (5 : Int32)), (.ref b26), (.ref b1), (.int (own_run vals cs r f t 5))])) t_
    refine XS.iload X86.here hx rfl (hb hby at_497) rfl ?_
    show Steps p_.tables e_ below (T86.setTop (mkF m_ 499 #[.val (.long vals), .second, .val (.long cs), .second, .val (.int r), .val (.int f), .val (.int t), .val (.ref b1), .val (.ref b26), .val (.int (own_r r)), .val (.int (own_f f)), .val (.int (own_t f t)), .val (.int (own_fold (own_u (own_vals vals) (own_chars cs)) (own_r r) (own_fn f) (own_tn f t - own_fn f))), .val (.int (own_run vals cs r f t 5))] [(.int (own_t f t)), (.int (own_f f)), (.int (5 : Int32)), (.ref b26), (.ref b1), (.int (own_run vals cs r f t 5))])) t_
    exact k_
  refine own_callS X86 hx hZ hown (hw _ (List.mem_of_getElem? (i := 21) rfl)) (hw _ (List.mem_of_getElem? (i := 22) rfl)) (hw _ (List.mem_of_getElem? (i := 3) rfl)) (hw _ (List.mem_of_getElem? (i := 23) rfl)) (by decide) [(.int (own_run vals cs r f t 5)), (.ref b1), (.ref b26), (.int (5 : Int32)), (.int (own_f f)), (.int (own_t f t))] [] (rm5 l Z a0 hw (own_run vals cs r f t 5) b1 b26 (5 : Int32) (own_f f) (own_t f t) k1 k26 (own_vals vals) (own_chars cs) 5 h80 n0 Z0 A_b1 A_b26 (own_hc cs) (by decide) (by decide)) 0 (by decide) (by decide) e86 (by rw [hml]; rfl) (lenOf own_pd5 rfl) rfl (Nat.le_of_eq rfl) (hb hby at_499) (by decide) (by decide) ?_
  intro v87 T87 L87 X87 q87
  obtain ⟨rfl, N87q, e87⟩ := q87
  have N87 := Fr.app N86 N87q
  rw [show f5 (own_run vals cs r f t 5) (5 : Int32) (own_f f) (own_t f t) (own_u (own_vals vals) (own_chars cs) 5) = own_run vals cs r f t 6 from own_runS vals cs r f t (5 : Int32) 5 (by decide) (by decide)]
  show own_Out p_ e_ below s_ _ _ _ T87 (mkF m_ 502 #[.val (.long vals), .second, .val (.long cs), .second, .val (.int r), .val (.int f), .val (.int t), .val (.ref b1), .val (.ref b26), .val (.int (own_r r)), .val (.int (own_f f)), .val (.int (own_t f t)), .val (.int (own_fold (own_u (own_vals vals) (own_chars cs)) (own_r r) (own_fn f) (own_tn f t - own_fn f))), .val (.int (own_run vals cs r f t 5))] [(.int (own_run vals cs r f t 6))])
  refine own_st T87 (mkF m_ 516 #[.val (.long vals), .second, .val (.long cs), .second, .val (.int r), .val (.int f), .val (.int t), .val (.ref b1), .val (.ref b26), .val (.int (own_r r)), .val (.int (own_f f)), .val (.int (own_t f t)), .val (.int (own_fold (own_u (own_vals vals) (own_chars cs)) (own_r r) (own_fn f) (own_tn f t - own_fn f))), .val (.int (own_run vals cs r f t 6))] [(.int (own_t f t)), (.int (own_f f)), (.int (6 : Int32)), (.ref b26), (.ref b1), (.int (own_run vals cs r f t 6))]) (fun t_ k_ => ?_) ?_
  · refine XS.istore X87.here hx rfl (hb hby at_502) rfl (l' := #[.val (.long vals), .second, .val (.long cs), .second, .val (.int r), .val (.int f), .val (.int t), .val (.ref b1), .val (.ref b26), .val (.int (own_r r)), .val (.int (own_f f)), .val (.int (own_t f t)), .val (.int (own_fold (own_u (own_vals vals) (own_chars cs)) (own_r r) (own_fn f) (own_tn f t - own_fn f))), .val (.int (own_run vals cs r f t 6))]) rfl ?_
    show Steps p_.tables e_ below (T87.setTop (mkF m_ 504 #[.val (.long vals), .second, .val (.long cs), .second, .val (.int r), .val (.int f), .val (.int t), .val (.ref b1), .val (.ref b26), .val (.int (own_r r)), .val (.int (own_f f)), .val (.int (own_t f t)), .val (.int (own_fold (own_u (own_vals vals) (own_chars cs)) (own_r r) (own_fn f) (own_tn f t - own_fn f))), .val (.int (own_run vals cs r f t 6))] [])) t_
    refine XS.iload X87.here hx rfl (hb hby at_504) rfl ?_
    show Steps p_.tables e_ below (T87.setTop (mkF m_ 506 #[.val (.long vals), .second, .val (.long cs), .second, .val (.int r), .val (.int f), .val (.int t), .val (.ref b1), .val (.ref b26), .val (.int (own_r r)), .val (.int (own_f f)), .val (.int (own_t f t)), .val (.int (own_fold (own_u (own_vals vals) (own_chars cs)) (own_r r) (own_fn f) (own_tn f t - own_fn f))), .val (.int (own_run vals cs r f t 6))] [(.int (own_run vals cs r f t 6))])) t_
    refine XS.aload X87.here hx rfl (hb hby at_506) rfl rfl ?_
    show Steps p_.tables e_ below (T87.setTop (mkF m_ 508 #[.val (.long vals), .second, .val (.long cs), .second, .val (.int r), .val (.int f), .val (.int t), .val (.ref b1), .val (.ref b26), .val (.int (own_r r)), .val (.int (own_f f)), .val (.int (own_t f t)), .val (.int (own_fold (own_u (own_vals vals) (own_chars cs)) (own_r r) (own_fn f) (own_tn f t - own_fn f))), .val (.int (own_run vals cs r f t 6))] [(.ref b1), (.int (own_run vals cs r f t 6))])) t_
    refine XS.aload X87.here hx rfl (hb hby at_508) rfl rfl ?_
    show Steps p_.tables e_ below (T87.setTop (mkF m_ 510 #[.val (.long vals), .second, .val (.long cs), .second, .val (.int r), .val (.int f), .val (.int t), .val (.ref b1), .val (.ref b26), .val (.int (own_r r)), .val (.int (own_f f)), .val (.int (own_t f t)), .val (.int (own_fold (own_u (own_vals vals) (own_chars cs)) (own_r r) (own_fn f) (own_tn f t - own_fn f))), .val (.int (own_run vals cs r f t 6))] [(.ref b26), (.ref b1), (.int (own_run vals cs r f t 6))])) t_
    refine XS.bipush X87.here hx rfl (hb hby at_510) ?_
    show Steps p_.tables e_ below (T87.setTop (mkF m_ 512 #[.val (.long vals), .second, .val (.long cs), .second, .val (.int r), .val (.int f), .val (.int t), .val (.ref b1), .val (.ref b26), .val (.int (own_r r)), .val (.int (own_f f)), .val (.int (own_t f t)), .val (.int (own_fold (own_u (own_vals vals) (own_chars cs)) (own_r r) (own_fn f) (own_tn f t - own_fn f))), .val (.int (own_run vals cs r f t 6))] [(.int (6 : Int32)), (.ref b26), (.ref b1), (.int (own_run vals cs r f t 6))])) t_
    refine XS.iload X87.here hx rfl (hb hby at_512) rfl ?_
    show Steps p_.tables e_ below (T87.setTop (mkF m_ 514 #[.val (.long vals), .second, .val (.long cs), .second, .val (.int r), .val (.int f), .val (.int t), .val (.ref b1), .val (.ref b26), .val (.int (own_r r)), .val (.int (own_f f)), .val (.int (own_t f t)), .val (.int (own_fold (own_u (own_vals vals) (own_chars cs)) (own_r r) (own_fn f) (own_tn f t - own_fn f))), .val (.int (own_run vals cs r f t 6))] [(.int (own_f f)), (.int (6 : Int32)), (.ref b26), (.ref b1), (.int (own_run vals cs r f t 6))])) t_
    refine XS.iload X87.here hx rfl (hb hby at_514) rfl ?_
    show Steps p_.tables e_ below (T87.setTop (mkF m_ 516 #[.val (.long vals), .second, .val (.long cs), .second, .val (.int r), .val (.int f), .val (.int t), .val (.ref b1), .val (.ref b26), .val (.int (own_r r)), .val (.int (own_f f)), .val (.int (own_t f t)), .val (.int (own_fold (own_u (own_vals vals) (own_chars cs)) (own_r r) (own_fn f) (own_tn f t - own_fn f))), .val (.int (own_run vals cs r f t 6))] [(.int (own_t f t)), (.int (own_f f)), (.int (6 : Int32)), (.ref b26), (.ref b1), (.int (own_run vals cs r f t 6))])) t_
    exact k_
  refine own_callS X87 hx hZ hown (hw _ (List.mem_of_getElem? (i := 21) rfl)) (hw _ (List.mem_of_getElem? (i := 22) rfl)) (hw _ (List.mem_of_getElem? (i := 3) rfl)) (hw _ (List.mem_of_getElem? (i := 23) rfl)) (by decide) [(.int (own_run vals cs r f t 6)), (.ref b1), (.ref b26), (.int (6 : Int32)), (.int (own_f f)), (.int (own_t f t))] [] (rm5 l Z a0 hw (own_run vals cs r f t 6) b1 b26 (6 : Int32) (own_f f) (own_t f t) k1 k26 (own_vals vals) (own_chars cs) 6 h80 n0 Z0 A_b1 A_b26 (own_hc cs) (by decide) (by decide)) 0 (by decide) (by decide) e87 (by rw [hml]; rfl) (lenOf own_pd5 rfl) rfl (Nat.le_of_eq rfl) (hb hby at_516) (by decide) (by decide) ?_
  intro v88 T88 L88 X88 q88
  obtain ⟨rfl, N88q, e88⟩ := q88
  have N88 := Fr.app N87 N88q
  rw [show f5 (own_run vals cs r f t 6) (6 : Int32) (own_f f) (own_t f t) (own_u (own_vals vals) (own_chars cs) 6) = own_run vals cs r f t 7 from own_runS vals cs r f t (6 : Int32) 6 (by decide) (by decide)]
  show own_Out p_ e_ below s_ _ _ _ T88 (mkF m_ 519 #[.val (.long vals), .second, .val (.long cs), .second, .val (.int r), .val (.int f), .val (.int t), .val (.ref b1), .val (.ref b26), .val (.int (own_r r)), .val (.int (own_f f)), .val (.int (own_t f t)), .val (.int (own_fold (own_u (own_vals vals) (own_chars cs)) (own_r r) (own_fn f) (own_tn f t - own_fn f))), .val (.int (own_run vals cs r f t 6))] [(.int (own_run vals cs r f t 7))])
  refine own_st T88 (mkF m_ 533 #[.val (.long vals), .second, .val (.long cs), .second, .val (.int r), .val (.int f), .val (.int t), .val (.ref b1), .val (.ref b26), .val (.int (own_r r)), .val (.int (own_f f)), .val (.int (own_t f t)), .val (.int (own_fold (own_u (own_vals vals) (own_chars cs)) (own_r r) (own_fn f) (own_tn f t - own_fn f))), .val (.int (own_run vals cs r f t 7))] [(.int (own_t f t)), (.int (own_f f)), (.int (7 : Int32)), (.ref b26), (.ref b1), (.int (own_run vals cs r f t 7))]) (fun t_ k_ => ?_) ?_
  · refine XS.istore X88.here hx rfl (hb hby at_519) rfl (l' := #[.val (.long vals), .second, .val (.long cs), .second, .val (.int r), .val (.int f), .val (.int t), .val (.ref b1), .val (.ref b26), .val (.int (own_r r)), .val (.int (own_f f)), .val (.int (own_t f t)), .val (.int (own_fold (own_u (own_vals vals) (own_chars cs)) (own_r r) (own_fn f) (own_tn f t - own_fn f))), .val (.int (own_run vals cs r f t 7))]) rfl ?_
    show Steps p_.tables e_ below (T88.setTop (mkF m_ 521 #[.val (.long vals), .second, .val (.long cs), .second, .val (.int r), .val (.int f), .val (.int t), .val (.ref b1), .val (.ref b26), .val (.int (own_r r)), .val (.int (own_f f)), .val (.int (own_t f t)), .val (.int (own_fold (own_u (own_vals vals) (own_chars cs)) (own_r r) (own_fn f) (own_tn f t - own_fn f))), .val (.int (own_run vals cs r f t 7))] [])) t_
    refine XS.iload X88.here hx rfl (hb hby at_521) rfl ?_
    show Steps p_.tables e_ below (T88.setTop (mkF m_ 523 #[.val (.long vals), .second, .val (.long cs), .second, .val (.int r), .val (.int f), .val (.int t), .val (.ref b1), .val (.ref b26), .val (.int (own_r r)), .val (.int (own_f f)), .val (.int (own_t f t)), .val (.int (own_fold (own_u (own_vals vals) (own_chars cs)) (own_r r) (own_fn f) (own_tn f t - own_fn f))), .val (.int (own_run vals cs r f t 7))] [(.int (own_run vals cs r f t 7))])) t_
    refine XS.aload X88.here hx rfl (hb hby at_523) rfl rfl ?_
    show Steps p_.tables e_ below (T88.setTop (mkF m_ 525 #[.val (.long vals), .second, .val (.long cs), .second, .val (.int r), .val (.int f), .val (.int t), .val (.ref b1), .val (.ref b26), .val (.int (own_r r)), .val (.int (own_f f)), .val (.int (own_t f t)), .val (.int (own_fold (own_u (own_vals vals) (own_chars cs)) (own_r r) (own_fn f) (own_tn f t - own_fn f))), .val (.int (own_run vals cs r f t 7))] [(.ref b1), (.int (own_run vals cs r f t 7))])) t_
    refine XS.aload X88.here hx rfl (hb hby at_525) rfl rfl ?_
    show Steps p_.tables e_ below (T88.setTop (mkF m_ 527 #[.val (.long vals), .second, .val (.long cs), .second, .val (.int r), .val (.int f), .val (.int t), .val (.ref b1), .val (.ref b26), .val (.int (own_r r)), .val (.int (own_f f)), .val (.int (own_t f t)), .val (.int (own_fold (own_u (own_vals vals) (own_chars cs)) (own_r r) (own_fn f) (own_tn f t - own_fn f))), .val (.int (own_run vals cs r f t 7))] [(.ref b26), (.ref b1), (.int (own_run vals cs r f t 7))])) t_
    refine XS.bipush X88.here hx rfl (hb hby at_527) ?_
    show Steps p_.tables e_ below (T88.setTop (mkF m_ 529 #[.val (.long vals), .second, .val (.long cs), .second, .val (.int r), .val (.int f), .val (.int t), .val (.ref b1), .val (.ref b26), .val (.int (own_r r)), .val (.int (own_f f)), .val (.int (own_t f t)), .val (.int (own_fold (own_u (own_vals vals) (own_chars cs)) (own_r r) (own_fn f) (own_tn f t - own_fn f))), .val (.int (own_run vals cs r f t 7))] [(.int (7 : Int32)), (.ref b26), (.ref b1), (.int (own_run vals cs r f t 7))])) t_
    refine XS.iload X88.here hx rfl (hb hby at_529) rfl ?_
    show Steps p_.tables e_ below (T88.setTop (mkF m_ 531 #[.val (.long vals), .second, .val (.long cs), .second, .val (.int r), .val (.int f), .val (.int t), .val (.ref b1), .val (.ref b26), .val (.int (own_r r)), .val (.int (own_f f)), .val (.int (own_t f t)), .val (.int (own_fold (own_u (own_vals vals) (own_chars cs)) (own_r r) (own_fn f) (own_tn f t - own_fn f))), .val (.int (own_run vals cs r f t 7))] [(.int (own_f f)), (.int (7 : Int32)), (.ref b26), (.ref b1), (.int (own_run vals cs r f t 7))])) t_
    refine XS.iload X88.here hx rfl (hb hby at_531) rfl ?_
    show Steps p_.tables e_ below (T88.setTop (mkF m_ 533 #[.val (.long vals), .second, .val (.long cs), .second, .val (.int r), .val (.int f), .val (.int t), .val (.ref b1), .val (.ref b26), .val (.int (own_r r)), .val (.int (own_f f)), .val (.int (own_t f t)), .val (.int (own_fold (own_u (own_vals vals) (own_chars cs)) (own_r r) (own_fn f) (own_tn f t - own_fn f))), .val (.int (own_run vals cs r f t 7))] [(.int (own_t f t)), (.int (own_f f)), (.int (7 : Int32)), (.ref b26), (.ref b1), (.int (own_run vals cs r f t 7))])) t_
    exact k_
  refine own_callS X88 hx hZ hown (hw _ (List.mem_of_getElem? (i := 21) rfl)) (hw _ (List.mem_of_getElem? (i := 22) rfl)) (hw _ (List.mem_of_getElem? (i := 3) rfl)) (hw _ (List.mem_of_getElem? (i := 23) rfl)) (by decide) [(.int (own_run vals cs r f t 7)), (.ref b1), (.ref b26), (.int (7 : Int32)), (.int (own_f f)), (.int (own_t f t))] [] (rm5 l Z a0 hw (own_run vals cs r f t 7) b1 b26 (7 : Int32) (own_f f) (own_t f t) k1 k26 (own_vals vals) (own_chars cs) 7 h80 n0 Z0 A_b1 A_b26 (own_hc cs) (by decide) (by decide)) 0 (by decide) (by decide) e88 (by rw [hml]; rfl) (lenOf own_pd5 rfl) rfl (Nat.le_of_eq rfl) (hb hby at_533) (by decide) (by decide) ?_
  intro v89 T89 L89 X89 q89
  obtain ⟨rfl, N89q, e89⟩ := q89
  have N89 := Fr.app N88 N89q
  rw [show f5 (own_run vals cs r f t 7) (7 : Int32) (own_f f) (own_t f t) (own_u (own_vals vals) (own_chars cs) 7) = own_run vals cs r f t 8 from own_runS vals cs r f t (7 : Int32) 7 (by decide) (by decide)]
  show own_Out p_ e_ below s_ _ _ _ T89 (mkF m_ 536 #[.val (.long vals), .second, .val (.long cs), .second, .val (.int r), .val (.int f), .val (.int t), .val (.ref b1), .val (.ref b26), .val (.int (own_r r)), .val (.int (own_f f)), .val (.int (own_t f t)), .val (.int (own_fold (own_u (own_vals vals) (own_chars cs)) (own_r r) (own_fn f) (own_tn f t - own_fn f))), .val (.int (own_run vals cs r f t 7))] [(.int (own_run vals cs r f t 8))])
  refine own_st T89 (mkF m_ 550 #[.val (.long vals), .second, .val (.long cs), .second, .val (.int r), .val (.int f), .val (.int t), .val (.ref b1), .val (.ref b26), .val (.int (own_r r)), .val (.int (own_f f)), .val (.int (own_t f t)), .val (.int (own_fold (own_u (own_vals vals) (own_chars cs)) (own_r r) (own_fn f) (own_tn f t - own_fn f))), .val (.int (own_run vals cs r f t 8))] [(.int (own_t f t)), (.int (own_f f)), (.int (8 : Int32)), (.ref b26), (.ref b1), (.int (own_run vals cs r f t 8))]) (fun t_ k_ => ?_) ?_
  · refine XS.istore X89.here hx rfl (hb hby at_536) rfl (l' := #[.val (.long vals), .second, .val (.long cs), .second, .val (.int r), .val (.int f), .val (.int t), .val (.ref b1), .val (.ref b26), .val (.int (own_r r)), .val (.int (own_f f)), .val (.int (own_t f t)), .val (.int (own_fold (own_u (own_vals vals) (own_chars cs)) (own_r r) (own_fn f) (own_tn f t - own_fn f))), .val (.int (own_run vals cs r f t 8))]) rfl ?_
    show Steps p_.tables e_ below (T89.setTop (mkF m_ 538 #[.val (.long vals), .second, .val (.long cs), .second, .val (.int r), .val (.int f), .val (.int t), .val (.ref b1), .val (.ref b26), .val (.int (own_r r)), .val (.int (own_f f)), .val (.int (own_t f t)), .val (.int (own_fold (own_u (own_vals vals) (own_chars cs)) (own_r r) (own_fn f) (own_tn f t - own_fn f))), .val (.int (own_run vals cs r f t 8))] [])) t_
    refine XS.iload X89.here hx rfl (hb hby at_538) rfl ?_
    show Steps p_.tables e_ below (T89.setTop (mkF m_ 540 #[.val (.long vals), .second, .val (.long cs), .second, .val (.int r), .val (.int f), .val (.int t), .val (.ref b1), .val (.ref b26), .val (.int (own_r r)), .val (.int (own_f f)), .val (.int (own_t f t)), .val (.int (own_fold (own_u (own_vals vals) (own_chars cs)) (own_r r) (own_fn f) (own_tn f t - own_fn f))), .val (.int (own_run vals cs r f t 8))] [(.int (own_run vals cs r f t 8))])) t_
    refine XS.aload X89.here hx rfl (hb hby at_540) rfl rfl ?_
    show Steps p_.tables e_ below (T89.setTop (mkF m_ 542 #[.val (.long vals), .second, .val (.long cs), .second, .val (.int r), .val (.int f), .val (.int t), .val (.ref b1), .val (.ref b26), .val (.int (own_r r)), .val (.int (own_f f)), .val (.int (own_t f t)), .val (.int (own_fold (own_u (own_vals vals) (own_chars cs)) (own_r r) (own_fn f) (own_tn f t - own_fn f))), .val (.int (own_run vals cs r f t 8))] [(.ref b1), (.int (own_run vals cs r f t 8))])) t_
    refine XS.aload X89.here hx rfl (hb hby at_542) rfl rfl ?_
    show Steps p_.tables e_ below (T89.setTop (mkF m_ 544 #[.val (.long vals), .second, .val (.long cs), .second, .val (.int r), .val (.int f), .val (.int t), .val (.ref b1), .val (.ref b26), .val (.int (own_r r)), .val (.int (own_f f)), .val (.int (own_t f t)), .val (.int (own_fold (own_u (own_vals vals) (own_chars cs)) (own_r r) (own_fn f) (own_tn f t - own_fn f))), .val (.int (own_run vals cs r f t 8))] [(.ref b26), (.ref b1), (.int (own_run vals cs r f t 8))])) t_
    refine XS.bipush X89.here hx rfl (hb hby at_544) ?_
    show Steps p_.tables e_ below (T89.setTop (mkF m_ 546 #[.val (.long vals), .second, .val (.long cs), .second, .val (.int r), .val (.int f), .val (.int t), .val (.ref b1), .val (.ref b26), .val (.int (own_r r)), .val (.int (own_f f)), .val (.int (own_t f t)), .val (.int (own_fold (own_u (own_vals vals) (own_chars cs)) (own_r r) (own_fn f) (own_tn f t - own_fn f))), .val (.int (own_run vals cs r f t 8))] [(.int (8 : Int32)), (.ref b26), (.ref b1), (.int (own_run vals cs r f t 8))])) t_
    refine XS.iload X89.here hx rfl (hb hby at_546) rfl ?_
    show Steps p_.tables e_ below (T89.setTop (mkF m_ 548 #[.val (.long vals), .second, .val (.long cs), .second, .val (.int r), .val (.int f), .val (.int t), .val (.ref b1), .val (.ref b26), .val (.int (own_r r)), .val (.int (own_f f)), .val (.int (own_t f t)), .val (.int (own_fold (own_u (own_vals vals) (own_chars cs)) (own_r r) (own_fn f) (own_tn f t - own_fn f))), .val (.int (own_run vals cs r f t 8))] [(.int (own_f f)), (.int (8 : Int32)), (.ref b26), (.ref b1), (.int (own_run vals cs r f t 8))])) t_
    refine XS.iload X89.here hx rfl (hb hby at_548) rfl ?_
    show Steps p_.tables e_ below (T89.setTop (mkF m_ 550 #[.val (.long vals), .second, .val (.long cs), .second, .val (.int r), .val (.int f), .val (.int t), .val (.ref b1), .val (.ref b26), .val (.int (own_r r)), .val (.int (own_f f)), .val (.int (own_t f t)), .val (.int (own_fold (own_u (own_vals vals) (own_chars cs)) (own_r r) (own_fn f) (own_tn f t - own_fn f))), .val (.int (own_run vals cs r f t 8))] [(.int (own_t f t)), (.int (own_f f)), (.int (8 : Int32)), (.ref b26), (.ref b1), (.int (own_run vals cs r f t 8))])) t_
    exact k_
  refine own_callS X89 hx hZ hown (hw _ (List.mem_of_getElem? (i := 21) rfl)) (hw _ (List.mem_of_getElem? (i := 22) rfl)) (hw _ (List.mem_of_getElem? (i := 3) rfl)) (hw _ (List.mem_of_getElem? (i := 23) rfl)) (by decide) [(.int (own_run vals cs r f t 8)), (.ref b1), (.ref b26), (.int (8 : Int32)), (.int (own_f f)), (.int (own_t f t))] [] (rm5 l Z a0 hw (own_run vals cs r f t 8) b1 b26 (8 : Int32) (own_f f) (own_t f t) k1 k26 (own_vals vals) (own_chars cs) 8 h80 n0 Z0 A_b1 A_b26 (own_hc cs) (by decide) (by decide)) 0 (by decide) (by decide) e89 (by rw [hml]; rfl) (lenOf own_pd5 rfl) rfl (Nat.le_of_eq rfl) (hb hby at_550) (by decide) (by decide) ?_
  intro v90 T90 L90 X90 q90
  obtain ⟨rfl, N90q, e90⟩ := q90
  have N90 := Fr.app N89 N90q
  rw [show f5 (own_run vals cs r f t 8) (8 : Int32) (own_f f) (own_t f t) (own_u (own_vals vals) (own_chars cs) 8) = own_run vals cs r f t 9 from own_runS vals cs r f t (8 : Int32) 8 (by decide) (by decide)]
  show own_Out p_ e_ below s_ _ _ _ T90 (mkF m_ 553 #[.val (.long vals), .second, .val (.long cs), .second, .val (.int r), .val (.int f), .val (.int t), .val (.ref b1), .val (.ref b26), .val (.int (own_r r)), .val (.int (own_f f)), .val (.int (own_t f t)), .val (.int (own_fold (own_u (own_vals vals) (own_chars cs)) (own_r r) (own_fn f) (own_tn f t - own_fn f))), .val (.int (own_run vals cs r f t 8))] [(.int (own_run vals cs r f t 9))])
  refine own_st T90 (mkF m_ 567 #[.val (.long vals), .second, .val (.long cs), .second, .val (.int r), .val (.int f), .val (.int t), .val (.ref b1), .val (.ref b26), .val (.int (own_r r)), .val (.int (own_f f)), .val (.int (own_t f t)), .val (.int (own_fold (own_u (own_vals vals) (own_chars cs)) (own_r r) (own_fn f) (own_tn f t - own_fn f))), .val (.int (own_run vals cs r f t 9))] [(.int (own_t f t)), (.int (own_f f)), (.int (9 : Int32)), (.ref b26), (.ref b1), (.int (own_run vals cs r f t 9))]) (fun t_ k_ => ?_) ?_
  · refine XS.istore X90.here hx rfl (hb hby at_553) rfl (l' := #[.val (.long vals), .second, .val (.long cs), .second, .val (.int r), .val (.int f), .val (.int t), .val (.ref b1), .val (.ref b26), .val (.int (own_r r)), .val (.int (own_f f)), .val (.int (own_t f t)), .val (.int (own_fold (own_u (own_vals vals) (own_chars cs)) (own_r r) (own_fn f) (own_tn f t - own_fn f))), .val (.int (own_run vals cs r f t 9))]) rfl ?_
    show Steps p_.tables e_ below (T90.setTop (mkF m_ 555 #[.val (.long vals), .second, .val (.long cs), .second, .val (.int r), .val (.int f), .val (.int t), .val (.ref b1), .val (.ref b26), .val (.int (own_r r)), .val (.int (own_f f)), .val (.int (own_t f t)), .val (.int (own_fold (own_u (own_vals vals) (own_chars cs)) (own_r r) (own_fn f) (own_tn f t - own_fn f))), .val (.int (own_run vals cs r f t 9))] [])) t_
    refine XS.iload X90.here hx rfl (hb hby at_555) rfl ?_
    show Steps p_.tables e_ below (T90.setTop (mkF m_ 557 #[.val (.long vals), .second, .val (.long cs), .second, .val (.int r), .val (.int f), .val (.int t), .val (.ref b1), .val (.ref b26), .val (.int (own_r r)), .val (.int (own_f f)), .val (.int (own_t f t)), .val (.int (own_fold (own_u (own_vals vals) (own_chars cs)) (own_r r) (own_fn f) (own_tn f t - own_fn f))), .val (.int (own_run vals cs r f t 9))] [(.int (own_run vals cs r f t 9))])) t_
    refine XS.aload X90.here hx rfl (hb hby at_557) rfl rfl ?_
    show Steps p_.tables e_ below (T90.setTop (mkF m_ 559 #[.val (.long vals), .second, .val (.long cs), .second, .val (.int r), .val (.int f), .val (.int t), .val (.ref b1), .val (.ref b26), .val (.int (own_r r)), .val (.int (own_f f)), .val (.int (own_t f t)), .val (.int (own_fold (own_u (own_vals vals) (own_chars cs)) (own_r r) (own_fn f) (own_tn f t - own_fn f))), .val (.int (own_run vals cs r f t 9))] [(.ref b1), (.int (own_run vals cs r f t 9))])) t_
    refine XS.aload X90.here hx rfl (hb hby at_559) rfl rfl ?_
    show Steps p_.tables e_ below (T90.setTop (mkF m_ 561 #[.val (.long vals), .second, .val (.long cs), .second, .val (.int r), .val (.int f), .val (.int t), .val (.ref b1), .val (.ref b26), .val (.int (own_r r)), .val (.int (own_f f)), .val (.int (own_t f t)), .val (.int (own_fold (own_u (own_vals vals) (own_chars cs)) (own_r r) (own_fn f) (own_tn f t - own_fn f))), .val (.int (own_run vals cs r f t 9))] [(.ref b26), (.ref b1), (.int (own_run vals cs r f t 9))])) t_
    refine XS.bipush X90.here hx rfl (hb hby at_561) ?_
    show Steps p_.tables e_ below (T90.setTop (mkF m_ 563 #[.val (.long vals), .second, .val (.long cs), .second, .val (.int r), .val (.int f), .val (.int t), .val (.ref b1), .val (.ref b26), .val (.int (own_r r)), .val (.int (own_f f)), .val (.int (own_t f t)), .val (.int (own_fold (own_u (own_vals vals) (own_chars cs)) (own_r r) (own_fn f) (own_tn f t - own_fn f))), .val (.int (own_run vals cs r f t 9))] [(.int (9 : Int32)), (.ref b26), (.ref b1), (.int (own_run vals cs r f t 9))])) t_
    refine XS.iload X90.here hx rfl (hb hby at_563) rfl ?_
    show Steps p_.tables e_ below (T90.setTop (mkF m_ 565 #[.val (.long vals), .second, .val (.long cs), .second, .val (.int r), .val (.int f), .val (.int t), .val (.ref b1), .val (.ref b26), .val (.int (own_r r)), .val (.int (own_f f)), .val (.int (own_t f t)), .val (.int (own_fold (own_u (own_vals vals) (own_chars cs)) (own_r r) (own_fn f) (own_tn f t - own_fn f))), .val (.int (own_run vals cs r f t 9))] [(.int (own_f f)), (.int (9 : Int32)), (.ref b26), (.ref b1), (.int (own_run vals cs r f t 9))])) t_
    refine XS.iload X90.here hx rfl (hb hby at_565) rfl ?_
    show Steps p_.tables e_ below (T90.setTop (mkF m_ 567 #[.val (.long vals), .second, .val (.long cs), .second, .val (.int r), .val (.int f), .val (.int t), .val (.ref b1), .val (.ref b26), .val (.int (own_r r)), .val (.int (own_f f)), .val (.int (own_t f t)), .val (.int (own_fold (own_u (own_vals vals) (own_chars cs)) (own_r r) (own_fn f) (own_tn f t - own_fn f))), .val (.int (own_run vals cs r f t 9))] [(.int (own_t f t)), (.int (own_f f)), (.int (9 : Int32)), (.ref b26), (.ref b1), (.int (own_run vals cs r f t 9))])) t_
    exact k_
  refine own_callS X90 hx hZ hown (hw _ (List.mem_of_getElem? (i := 21) rfl)) (hw _ (List.mem_of_getElem? (i := 22) rfl)) (hw _ (List.mem_of_getElem? (i := 3) rfl)) (hw _ (List.mem_of_getElem? (i := 23) rfl)) (by decide) [(.int (own_run vals cs r f t 9)), (.ref b1), (.ref b26), (.int (9 : Int32)), (.int (own_f f)), (.int (own_t f t))] [] (rm5 l Z a0 hw (own_run vals cs r f t 9) b1 b26 (9 : Int32) (own_f f) (own_t f t) k1 k26 (own_vals vals) (own_chars cs) 9 h80 n0 Z0 A_b1 A_b26 (own_hc cs) (by decide) (by decide)) 0 (by decide) (by decide) e90 (by rw [hml]; rfl) (lenOf own_pd5 rfl) rfl (Nat.le_of_eq rfl) (hb hby at_567) (by decide) (by decide) ?_
  intro v91 T91 L91 X91 q91
  obtain ⟨rfl, N91q, e91⟩ := q91
  have N91 := Fr.app N90 N91q
  rw [show f5 (own_run vals cs r f t 9) (9 : Int32) (own_f f) (own_t f t) (own_u (own_vals vals) (own_chars cs) 9) = own_run vals cs r f t 10 from own_runS vals cs r f t (9 : Int32) 9 (by decide) (by decide)]
  show own_Out p_ e_ below s_ _ _ _ T91 (mkF m_ 570 #[.val (.long vals), .second, .val (.long cs), .second, .val (.int r), .val (.int f), .val (.int t), .val (.ref b1), .val (.ref b26), .val (.int (own_r r)), .val (.int (own_f f)), .val (.int (own_t f t)), .val (.int (own_fold (own_u (own_vals vals) (own_chars cs)) (own_r r) (own_fn f) (own_tn f t - own_fn f))), .val (.int (own_run vals cs r f t 9))] [(.int (own_run vals cs r f t 10))])
  refine own_st T91 (mkF m_ 584 #[.val (.long vals), .second, .val (.long cs), .second, .val (.int r), .val (.int f), .val (.int t), .val (.ref b1), .val (.ref b26), .val (.int (own_r r)), .val (.int (own_f f)), .val (.int (own_t f t)), .val (.int (own_fold (own_u (own_vals vals) (own_chars cs)) (own_r r) (own_fn f) (own_tn f t - own_fn f))), .val (.int (own_run vals cs r f t 10))] [(.int (own_t f t)), (.int (own_f f)), (.int (10 : Int32)), (.ref b26), (.ref b1), (.int (own_run vals cs r f t 10))]) (fun t_ k_ => ?_) ?_
  · refine XS.istore X91.here hx rfl (hb hby at_570) rfl (l' := #[.val (.long vals), .second, .val (.long cs), .second, .val (.int r), .val (.int f), .val (.int t), .val (.ref b1), .val (.ref b26), .val (.int (own_r r)), .val (.int (own_f f)), .val (.int (own_t f t)), .val (.int (own_fold (own_u (own_vals vals) (own_chars cs)) (own_r r) (own_fn f) (own_tn f t - own_fn f))), .val (.int (own_run vals cs r f t 10))]) rfl ?_
    show Steps p_.tables e_ below (T91.setTop (mkF m_ 572 #[.val (.long vals), .second, .val (.long cs), .second, .val (.int r), .val (.int f), .val (.int t), .val (.ref b1), .val (.ref b26), .val (.int (own_r r)), .val (.int (own_f f)), .val (.int (own_t f t)), .val (.int (own_fold (own_u (own_vals vals) (own_chars cs)) (own_r r) (own_fn f) (own_tn f t - own_fn f))), .val (.int (own_run vals cs r f t 10))] [])) t_
    refine XS.iload X91.here hx rfl (hb hby at_572) rfl ?_
    show Steps p_.tables e_ below (T91.setTop (mkF m_ 574 #[.val (.long vals), .second, .val (.long cs), .second, .val (.int r), .val (.int f), .val (.int t), .val (.ref b1), .val (.ref b26), .val (.int (own_r r)), .val (.int (own_f f)), .val (.int (own_t f t)), .val (.int (own_fold (own_u (own_vals vals) (own_chars cs)) (own_r r) (own_fn f) (own_tn f t - own_fn f))), .val (.int (own_run vals cs r f t 10))] [(.int (own_run vals cs r f t 10))])) t_
    refine XS.aload X91.here hx rfl (hb hby at_574) rfl rfl ?_
    show Steps p_.tables e_ below (T91.setTop (mkF m_ 576 #[.val (.long vals), .second, .val (.long cs), .second, .val (.int r), .val (.int f), .val (.int t), .val (.ref b1), .val (.ref b26), .val (.int (own_r r)), .val (.int (own_f f)), .val (.int (own_t f t)), .val (.int (own_fold (own_u (own_vals vals) (own_chars cs)) (own_r r) (own_fn f) (own_tn f t - own_fn f))), .val (.int (own_run vals cs r f t 10))] [(.ref b1), (.int (own_run vals cs r f t 10))])) t_
    refine XS.aload X91.here hx rfl (hb hby at_576) rfl rfl ?_
    show Steps p_.tables e_ below (T91.setTop (mkF m_ 578 #[.val (.long vals), .second, .val (.long cs), .second, .val (.int r), .val (.int f), .val (.int t), .val (.ref b1), .val (.ref b26), .val (.int (own_r r)), .val (.int (own_f f)), .val (.int (own_t f t)), .val (.int (own_fold (own_u (own_vals vals) (own_chars cs)) (own_r r) (own_fn f) (own_tn f t - own_fn f))), .val (.int (own_run vals cs r f t 10))] [(.ref b26), (.ref b1), (.int (own_run vals cs r f t 10))])) t_
    refine XS.bipush X91.here hx rfl (hb hby at_578) ?_
    show Steps p_.tables e_ below (T91.setTop (mkF m_ 580 #[.val (.long vals), .second, .val (.long cs), .second, .val (.int r), .val (.int f), .val (.int t), .val (.ref b1), .val (.ref b26), .val (.int (own_r r)), .val (.int (own_f f)), .val (.int (own_t f t)), .val (.int (own_fold (own_u (own_vals vals) (own_chars cs)) (own_r r) (own_fn f) (own_tn f t - own_fn f))), .val (.int (own_run vals cs r f t 10))] [(.int (10 : Int32)), (.ref b26), (.ref b1), (.int (own_run vals cs r f t 10))])) t_
    refine XS.iload X91.here hx rfl (hb hby at_580) rfl ?_
    show Steps p_.tables e_ below (T91.setTop (mkF m_ 582 #[.val (.long vals), .second, .val (.long cs), .second, .val (.int r), .val (.int f), .val (.int t), .val (.ref b1), .val (.ref b26), .val (.int (own_r r)), .val (.int (own_f f)), .val (.int (own_t f t)), .val (.int (own_fold (own_u (own_vals vals) (own_chars cs)) (own_r r) (own_fn f) (own_tn f t - own_fn f))), .val (.int (own_run vals cs r f t 10))] [(.int (own_f f)), (.int (10 : Int32)), (.ref b26), (.ref b1), (.int (own_run vals cs r f t 10))])) t_
    refine XS.iload X91.here hx rfl (hb hby at_582) rfl ?_
    show Steps p_.tables e_ below (T91.setTop (mkF m_ 584 #[.val (.long vals), .second, .val (.long cs), .second, .val (.int r), .val (.int f), .val (.int t), .val (.ref b1), .val (.ref b26), .val (.int (own_r r)), .val (.int (own_f f)), .val (.int (own_t f t)), .val (.int (own_fold (own_u (own_vals vals) (own_chars cs)) (own_r r) (own_fn f) (own_tn f t - own_fn f))), .val (.int (own_run vals cs r f t 10))] [(.int (own_t f t)), (.int (own_f f)), (.int (10 : Int32)), (.ref b26), (.ref b1), (.int (own_run vals cs r f t 10))])) t_
    exact k_
  refine own_callS X91 hx hZ hown (hw _ (List.mem_of_getElem? (i := 21) rfl)) (hw _ (List.mem_of_getElem? (i := 22) rfl)) (hw _ (List.mem_of_getElem? (i := 3) rfl)) (hw _ (List.mem_of_getElem? (i := 23) rfl)) (by decide) [(.int (own_run vals cs r f t 10)), (.ref b1), (.ref b26), (.int (10 : Int32)), (.int (own_f f)), (.int (own_t f t))] [] (rm5 l Z a0 hw (own_run vals cs r f t 10) b1 b26 (10 : Int32) (own_f f) (own_t f t) k1 k26 (own_vals vals) (own_chars cs) 10 h80 n0 Z0 A_b1 A_b26 (own_hc cs) (by decide) (by decide)) 0 (by decide) (by decide) e91 (by rw [hml]; rfl) (lenOf own_pd5 rfl) rfl (Nat.le_of_eq rfl) (hb hby at_584) (by decide) (by decide) ?_
  intro v92 T92 L92 X92 q92
  obtain ⟨rfl, N92q, e92⟩ := q92
  have N92 := Fr.app N91 N92q
  rw [show f5 (own_run vals cs r f t 10) (10 : Int32) (own_f f) (own_t f t) (own_u (own_vals vals) (own_chars cs) 10) = own_run vals cs r f t 11 from own_runS vals cs r f t (10 : Int32) 10 (by decide) (by decide)]
  show own_Out p_ e_ below s_ _ _ _ T92 (mkF m_ 587 #[.val (.long vals), .second, .val (.long cs), .second, .val (.int r), .val (.int f), .val (.int t), .val (.ref b1), .val (.ref b26), .val (.int (own_r r)), .val (.int (own_f f)), .val (.int (own_t f t)), .val (.int (own_fold (own_u (own_vals vals) (own_chars cs)) (own_r r) (own_fn f) (own_tn f t - own_fn f))), .val (.int (own_run vals cs r f t 10))] [(.int (own_run vals cs r f t 11))])
  refine own_st T92 (mkF m_ 601 #[.val (.long vals), .second, .val (.long cs), .second, .val (.int r), .val (.int f), .val (.int t), .val (.ref b1), .val (.ref b26), .val (.int (own_r r)), .val (.int (own_f f)), .val (.int (own_t f t)), .val (.int (own_fold (own_u (own_vals vals) (own_chars cs)) (own_r r) (own_fn f) (own_tn f t - own_fn f))), .val (.int (own_run vals cs r f t 11))] [(.int (own_t f t)), (.int (own_f f)), (.int (11 : Int32)), (.ref b26), (.ref b1), (.int (own_run vals cs r f t 11))]) (fun t_ k_ => ?_) ?_
  · refine XS.istore X92.here hx rfl (hb hby at_587) rfl (l' := #[.val (.long vals), .second, .val (.long cs), .second, .val (.int r), .val (.int f), .val (.int t), .val (.ref b1), .val (.ref b26), .val (.int (own_r r)), .val (.int (own_f f)), .val (.int (own_t f t)), .val (.int (own_fold (own_u (own_vals vals) (own_chars cs)) (own_r r) (own_fn f) (own_tn f t - own_fn f))), .val (.int (own_run vals cs r f t 11))]) rfl ?_
    show Steps p_.tables e_ below (T92.setTop (mkF m_ 589 #[.val (.long vals), .second, .val (.long cs), .second, .val (.int r), .val (.int f), .val (.int t), .val (.ref b1), .val (.ref b26), .val (.int (own_r r)), .val (.int (own_f f)), .val (.int (own_t f t)), .val (.int (own_fold (own_u (own_vals vals) (own_chars cs)) (own_r r) (own_fn f) (own_tn f t - own_fn f))), .val (.int (own_run vals cs r f t 11))] [])) t_
    refine XS.iload X92.here hx rfl (hb hby at_589) rfl ?_
    show Steps p_.tables e_ below (T92.setTop (mkF m_ 591 #[.val (.long vals), .second, .val (.long cs), .second, .val (.int r), .val (.int f), .val (.int t), .val (.ref b1), .val (.ref b26), .val (.int (own_r r)), .val (.int (own_f f)), .val (.int (own_t f t)), .val (.int (own_fold (own_u (own_vals vals) (own_chars cs)) (own_r r) (own_fn f) (own_tn f t - own_fn f))), .val (.int (own_run vals cs r f t 11))] [(.int (own_run vals cs r f t 11))])) t_
    refine XS.aload X92.here hx rfl (hb hby at_591) rfl rfl ?_
    show Steps p_.tables e_ below (T92.setTop (mkF m_ 593 #[.val (.long vals), .second, .val (.long cs), .second, .val (.int r), .val (.int f), .val (.int t), .val (.ref b1), .val (.ref b26), .val (.int (own_r r)), .val (.int (own_f f)), .val (.int (own_t f t)), .val (.int (own_fold (own_u (own_vals vals) (own_chars cs)) (own_r r) (own_fn f) (own_tn f t - own_fn f))), .val (.int (own_run vals cs r f t 11))] [(.ref b1), (.int (own_run vals cs r f t 11))])) t_
    refine XS.aload X92.here hx rfl (hb hby at_593) rfl rfl ?_
    show Steps p_.tables e_ below (T92.setTop (mkF m_ 595 #[.val (.long vals), .second, .val (.long cs), .second, .val (.int r), .val (.int f), .val (.int t), .val (.ref b1), .val (.ref b26), .val (.int (own_r r)), .val (.int (own_f f)), .val (.int (own_t f t)), .val (.int (own_fold (own_u (own_vals vals) (own_chars cs)) (own_r r) (own_fn f) (own_tn f t - own_fn f))), .val (.int (own_run vals cs r f t 11))] [(.ref b26), (.ref b1), (.int (own_run vals cs r f t 11))])) t_
    refine XS.bipush X92.here hx rfl (hb hby at_595) ?_
    show Steps p_.tables e_ below (T92.setTop (mkF m_ 597 #[.val (.long vals), .second, .val (.long cs), .second, .val (.int r), .val (.int f), .val (.int t), .val (.ref b1), .val (.ref b26), .val (.int (own_r r)), .val (.int (own_f f)), .val (.int (own_t f t)), .val (.int (own_fold (own_u (own_vals vals) (own_chars cs)) (own_r r) (own_fn f) (own_tn f t - own_fn f))), .val (.int (own_run vals cs r f t 11))] [(.int (11 : Int32)), (.ref b26), (.ref b1), (.int (own_run vals cs r f t 11))])) t_
    refine XS.iload X92.here hx rfl (hb hby at_597) rfl ?_
    show Steps p_.tables e_ below (T92.setTop (mkF m_ 599 #[.val (.long vals), .second, .val (.long cs), .second, .val (.int r), .val (.int f), .val (.int t), .val (.ref b1), .val (.ref b26), .val (.int (own_r r)), .val (.int (own_f f)), .val (.int (own_t f t)), .val (.int (own_fold (own_u (own_vals vals) (own_chars cs)) (own_r r) (own_fn f) (own_tn f t - own_fn f))), .val (.int (own_run vals cs r f t 11))] [(.int (own_f f)), (.int (11 : Int32)), (.ref b26), (.ref b1), (.int (own_run vals cs r f t 11))])) t_
    refine XS.iload X92.here hx rfl (hb hby at_599) rfl ?_
    show Steps p_.tables e_ below (T92.setTop (mkF m_ 601 #[.val (.long vals), .second, .val (.long cs), .second, .val (.int r), .val (.int f), .val (.int t), .val (.ref b1), .val (.ref b26), .val (.int (own_r r)), .val (.int (own_f f)), .val (.int (own_t f t)), .val (.int (own_fold (own_u (own_vals vals) (own_chars cs)) (own_r r) (own_fn f) (own_tn f t - own_fn f))), .val (.int (own_run vals cs r f t 11))] [(.int (own_t f t)), (.int (own_f f)), (.int (11 : Int32)), (.ref b26), (.ref b1), (.int (own_run vals cs r f t 11))])) t_
    exact k_
  refine own_callS X92 hx hZ hown (hw _ (List.mem_of_getElem? (i := 21) rfl)) (hw _ (List.mem_of_getElem? (i := 22) rfl)) (hw _ (List.mem_of_getElem? (i := 3) rfl)) (hw _ (List.mem_of_getElem? (i := 23) rfl)) (by decide) [(.int (own_run vals cs r f t 11)), (.ref b1), (.ref b26), (.int (11 : Int32)), (.int (own_f f)), (.int (own_t f t))] [] (rm5 l Z a0 hw (own_run vals cs r f t 11) b1 b26 (11 : Int32) (own_f f) (own_t f t) k1 k26 (own_vals vals) (own_chars cs) 11 h80 n0 Z0 A_b1 A_b26 (own_hc cs) (by decide) (by decide)) 0 (by decide) (by decide) e92 (by rw [hml]; rfl) (lenOf own_pd5 rfl) rfl (Nat.le_of_eq rfl) (hb hby at_601) (by decide) (by decide) ?_
  intro v93 T93 L93 X93 q93
  obtain ⟨rfl, N93q, e93⟩ := q93
  have N93 := Fr.app N92 N93q
  rw [show f5 (own_run vals cs r f t 11) (11 : Int32) (own_f f) (own_t f t) (own_u (own_vals vals) (own_chars cs) 11) = own_run vals cs r f t 12 from own_runS vals cs r f t (11 : Int32) 11 (by decide) (by decide)]
  show own_Out p_ e_ below s_ _ _ _ T93 (mkF m_ 604 #[.val (.long vals), .second, .val (.long cs), .second, .val (.int r), .val (.int f), .val (.int t), .val (.ref b1), .val (.ref b26), .val (.int (own_r r)), .val (.int (own_f f)), .val (.int (own_t f t)), .val (.int (own_fold (own_u (own_vals vals) (own_chars cs)) (own_r r) (own_fn f) (own_tn f t - own_fn f))), .val (.int (own_run vals cs r f t 11))] [(.int (own_run vals cs r f t 12))])
  refine own_st T93 (mkF m_ 618 #[.val (.long vals), .second, .val (.long cs), .second, .val (.int r), .val (.int f), .val (.int t), .val (.ref b1), .val (.ref b26), .val (.int (own_r r)), .val (.int (own_f f)), .val (.int (own_t f t)), .val (.int (own_fold (own_u (own_vals vals) (own_chars cs)) (own_r r) (own_fn f) (own_tn f t - own_fn f))), .val (.int (own_run vals cs r f t 12))] [(.int (own_t f t)), (.int (own_f f)), (.int (12 : Int32)), (.ref b26), (.ref b1), (.int (own_run vals cs r f t 12))]) (fun t_ k_ => ?_) ?_
  · refine XS.istore X93.here hx rfl (hb hby at_604) rfl (l' := #[.val (.long vals), .second, .val (.long cs), .second, .val (.int r), .val (.int f), .val (.int t), .val (.ref b1), .val (.ref b26), .val (.int (own_r r)), .val (.int (own_f f)), .val (.int (own_t f t)), .val (.int (own_fold (own_u (own_vals vals) (own_chars cs)) (own_r r) (own_fn f) (own_tn f t - own_fn f))), .val (.int (own_run vals cs r f t 12))]) rfl ?_
    show Steps p_.tables e_ below (T93.setTop (mkF m_ 606 #[.val (.long vals), .second, .val (.long cs), .second, .val (.int r), .val (.int f), .val (.int t), .val (.ref b1), .val (.ref b26), .val (.int (own_r r)), .val (.int (own_f f)), .val (.int (own_t f t)), .val (.int (own_fold (own_u (own_vals vals) (own_chars cs)) (own_r r) (own_fn f) (own_tn f t - own_fn f))), .val (.int (own_run vals cs r f t 12))] [])) t_
    refine XS.iload X93.here hx rfl (hb hby at_606) rfl ?_
    show Steps p_.tables e_ below (T93.setTop (mkF m_ 608 #[.val (.long vals), .second, .val (.long cs), .second, .val (.int r), .val (.int f), .val (.int t), .val (.ref b1), .val (.ref b26), .val (.int (own_r r)), .val (.int (own_f f)), .val (.int (own_t f t)), .val (.int (own_fold (own_u (own_vals vals) (own_chars cs)) (own_r r) (own_fn f) (own_tn f t - own_fn f))), .val (.int (own_run vals cs r f t 12))] [(.int (own_run vals cs r f t 12))])) t_
    refine XS.aload X93.here hx rfl (hb hby at_608) rfl rfl ?_
    show Steps p_.tables e_ below (T93.setTop (mkF m_ 610 #[.val (.long vals), .second, .val (.long cs), .second, .val (.int r), .val (.int f), .val (.int t), .val (.ref b1), .val (.ref b26), .val (.int (own_r r)), .val (.int (own_f f)), .val (.int (own_t f t)), .val (.int (own_fold (own_u (own_vals vals) (own_chars cs)) (own_r r) (own_fn f) (own_tn f t - own_fn f))), .val (.int (own_run vals cs r f t 12))] [(.ref b1), (.int (own_run vals cs r f t 12))])) t_
    refine XS.aload X93.here hx rfl (hb hby at_610) rfl rfl ?_
    show Steps p_.tables e_ below (T93.setTop (mkF m_ 612 #[.val (.long vals), .second, .val (.long cs), .second, .val (.int r), .val (.int f), .val (.int t), .val (.ref b1), .val (.ref b26), .val (.int (own_r r)), .val (.int (own_f f)), .val (.int (own_t f t)), .val (.int (own_fold (own_u (own_vals vals) (own_chars cs)) (own_r r) (own_fn f) (own_tn f t - own_fn f))), .val (.int (own_run vals cs r f t 12))] [(.ref b26), (.ref b1), (.int (own_run vals cs r f t 12))])) t_
    refine XS.bipush X93.here hx rfl (hb hby at_612) ?_
    show Steps p_.tables e_ below (T93.setTop (mkF m_ 614 #[.val (.long vals), .second, .val (.long cs), .second, .val (.int r), .val (.int f), .val (.int t), .val (.ref b1), .val (.ref b26), .val (.int (own_r r)), .val (.int (own_f f)), .val (.int (own_t f t)), .val (.int (own_fold (own_u (own_vals vals) (own_chars cs)) (own_r r) (own_fn f) (own_tn f t - own_fn f))), .val (.int (own_run vals cs r f t 12))] [(.int (12 : Int32)), (.ref b26), (.ref b1), (.int (own_run vals cs r f t 12))])) t_
    refine XS.iload X93.here hx rfl (hb hby at_614) rfl ?_
    show Steps p_.tables e_ below (T93.setTop (mkF m_ 616 #[.val (.long vals), .second, .val (.long cs), .second, .val (.int r), .val (.int f), .val (.int t), .val (.ref b1), .val (.ref b26), .val (.int (own_r r)), .val (.int (own_f f)), .val (.int (own_t f t)), .val (.int (own_fold (own_u (own_vals vals) (own_chars cs)) (own_r r) (own_fn f) (own_tn f t - own_fn f))), .val (.int (own_run vals cs r f t 12))] [(.int (own_f f)), (.int (12 : Int32)), (.ref b26), (.ref b1), (.int (own_run vals cs r f t 12))])) t_
    refine XS.iload X93.here hx rfl (hb hby at_616) rfl ?_
    show Steps p_.tables e_ below (T93.setTop (mkF m_ 618 #[.val (.long vals), .second, .val (.long cs), .second, .val (.int r), .val (.int f), .val (.int t), .val (.ref b1), .val (.ref b26), .val (.int (own_r r)), .val (.int (own_f f)), .val (.int (own_t f t)), .val (.int (own_fold (own_u (own_vals vals) (own_chars cs)) (own_r r) (own_fn f) (own_tn f t - own_fn f))), .val (.int (own_run vals cs r f t 12))] [(.int (own_t f t)), (.int (own_f f)), (.int (12 : Int32)), (.ref b26), (.ref b1), (.int (own_run vals cs r f t 12))])) t_
    exact k_
  refine own_callS X93 hx hZ hown (hw _ (List.mem_of_getElem? (i := 21) rfl)) (hw _ (List.mem_of_getElem? (i := 22) rfl)) (hw _ (List.mem_of_getElem? (i := 3) rfl)) (hw _ (List.mem_of_getElem? (i := 23) rfl)) (by decide) [(.int (own_run vals cs r f t 12)), (.ref b1), (.ref b26), (.int (12 : Int32)), (.int (own_f f)), (.int (own_t f t))] [] (rm5 l Z a0 hw (own_run vals cs r f t 12) b1 b26 (12 : Int32) (own_f f) (own_t f t) k1 k26 (own_vals vals) (own_chars cs) 12 h80 n0 Z0 A_b1 A_b26 (own_hc cs) (by decide) (by decide)) 0 (by decide) (by decide) e93 (by rw [hml]; rfl) (lenOf own_pd5 rfl) rfl (Nat.le_of_eq rfl) (hb hby at_618) (by decide) (by decide) ?_
  intro v94 T94 L94 X94 q94
  obtain ⟨rfl, N94q, e94⟩ := q94
  have N94 := Fr.app N93 N94q
  rw [show f5 (own_run vals cs r f t 12) (12 : Int32) (own_f f) (own_t f t) (own_u (own_vals vals) (own_chars cs) 12) = own_run vals cs r f t 13 from own_runS vals cs r f t (12 : Int32) 12 (by decide) (by decide)]
  show own_Out p_ e_ below s_ _ _ _ T94 (mkF m_ 621 #[.val (.long vals), .second, .val (.long cs), .second, .val (.int r), .val (.int f), .val (.int t), .val (.ref b1), .val (.ref b26), .val (.int (own_r r)), .val (.int (own_f f)), .val (.int (own_t f t)), .val (.int (own_fold (own_u (own_vals vals) (own_chars cs)) (own_r r) (own_fn f) (own_tn f t - own_fn f))), .val (.int (own_run vals cs r f t 12))] [(.int (own_run vals cs r f t 13))])
  refine own_st T94 (mkF m_ 635 #[.val (.long vals), .second, .val (.long cs), .second, .val (.int r), .val (.int f), .val (.int t), .val (.ref b1), .val (.ref b26), .val (.int (own_r r)), .val (.int (own_f f)), .val (.int (own_t f t)), .val (.int (own_fold (own_u (own_vals vals) (own_chars cs)) (own_r r) (own_fn f) (own_tn f t - own_fn f))), .val (.int (own_run vals cs r f t 13))] [(.int (own_t f t)), (.int (own_f f)), (.int (13 : Int32)), (.ref b26), (.ref b1), (.int (own_run vals cs r f t 13))]) (fun t_ k_ => ?_) ?_
  · refine XS.istore X94.here hx rfl (hb hby at_621) rfl (l' := #[.val (.long vals), .second, .val (.long cs), .second, .val (.int r), .val (.int f), .val (.int t), .val (.ref b1), .val (.ref b26), .val (.int (own_r r)), .val (.int (own_f f)), .val (.int (own_t f t)), .val (.int (own_fold (own_u (own_vals vals) (own_chars cs)) (own_r r) (own_fn f) (own_tn f t - own_fn f))), .val (.int (own_run vals cs r f t 13))]) rfl ?_
    show Steps p_.tables e_ below (T94.setTop (mkF m_ 623 #[.val (.long vals), .second, .val (.long cs), .second, .val (.int r), .val (.int f), .val (.int t), .val (.ref b1), .val (.ref b26), .val (.int (own_r r)), .val (.int (own_f f)), .val (.int (own_t f t)), .val (.int (own_fold (own_u (own_vals vals) (own_chars cs)) (own_r r) (own_fn f) (own_tn f t - own_fn f))), .val (.int (own_run vals cs r f t 13))] [])) t_
    refine XS.iload X94.here hx rfl (hb hby at_623) rfl ?_
    show Steps p_.tables e_ below (T94.setTop (mkF m_ 625 #[.val (.long vals), .second, .val (.long cs), .second, .val (.int r), .val (.int f), .val (.int t), .val (.ref b1), .val (.ref b26), .val (.int (own_r r)), .val (.int (own_f f)), .val (.int (own_t f t)), .val (.int (own_fold (own_u (own_vals vals) (own_chars cs)) (own_r r) (own_fn f) (own_tn f t - own_fn f))), .val (.int (own_run vals cs r f t 13))] [(.int (own_run vals cs r f t 13))])) t_
    refine XS.aload X94.here hx rfl (hb hby at_625) rfl rfl ?_
    show Steps p_.tables e_ below (T94.setTop (mkF m_ 627 #[.val (.long vals), .second, .val (.long cs), .second, .val (.int r), .val (.int f), .val (.int t), .val (.ref b1), .val (.ref b26), .val (.int (own_r r)), .val (.int (own_f f)), .val (.int (own_t f t)), .val (.int (own_fold (own_u (own_vals vals) (own_chars cs)) (own_r r) (own_fn f) (own_tn f t - own_fn f))), .val (.int (own_run vals cs r f t 13))] [(.ref b1), (.int (own_run vals cs r f t 13))])) t_
    refine XS.aload X94.here hx rfl (hb hby at_627) rfl rfl ?_
    show Steps p_.tables e_ below (T94.setTop (mkF m_ 629 #[.val (.long vals), .second, .val (.long cs), .second, .val (.int r), .val (.int f), .val (.int t), .val (.ref b1), .val (.ref b26), .val (.int (own_r r)), .val (.int (own_f f)), .val (.int (own_t f t)), .val (.int (own_fold (own_u (own_vals vals) (own_chars cs)) (own_r r) (own_fn f) (own_tn f t - own_fn f))), .val (.int (own_run vals cs r f t 13))] [(.ref b26), (.ref b1), (.int (own_run vals cs r f t 13))])) t_
    refine XS.bipush X94.here hx rfl (hb hby at_629) ?_
    show Steps p_.tables e_ below (T94.setTop (mkF m_ 631 #[.val (.long vals), .second, .val (.long cs), .second, .val (.int r), .val (.int f), .val (.int t), .val (.ref b1), .val (.ref b26), .val (.int (own_r r)), .val (.int (own_f f)), .val (.int (own_t f t)), .val (.int (own_fold (own_u (own_vals vals) (own_chars cs)) (own_r r) (own_fn f) (own_tn f t - own_fn f))), .val (.int (own_run vals cs r f t 13))] [(.int (13 : Int32)), (.ref b26), (.ref b1), (.int (own_run vals cs r f t 13))])) t_
    refine XS.iload X94.here hx rfl (hb hby at_631) rfl ?_
    show Steps p_.tables e_ below (T94.setTop (mkF m_ 633 #[.val (.long vals), .second, .val (.long cs), .second, .val (.int r), .val (.int f), .val (.int t), .val (.ref b1), .val (.ref b26), .val (.int (own_r r)), .val (.int (own_f f)), .val (.int (own_t f t)), .val (.int (own_fold (own_u (own_vals vals) (own_chars cs)) (own_r r) (own_fn f) (own_tn f t - own_fn f))), .val (.int (own_run vals cs r f t 13))] [(.int (own_f f)), (.int (13 : Int32)), (.ref b26), (.ref b1), (.int (own_run vals cs r f t 13))])) t_
    refine XS.iload X94.here hx rfl (hb hby at_633) rfl ?_
    show Steps p_.tables e_ below (T94.setTop (mkF m_ 635 #[.val (.long vals), .second, .val (.long cs), .second, .val (.int r), .val (.int f), .val (.int t), .val (.ref b1), .val (.ref b26), .val (.int (own_r r)), .val (.int (own_f f)), .val (.int (own_t f t)), .val (.int (own_fold (own_u (own_vals vals) (own_chars cs)) (own_r r) (own_fn f) (own_tn f t - own_fn f))), .val (.int (own_run vals cs r f t 13))] [(.int (own_t f t)), (.int (own_f f)), (.int (13 : Int32)), (.ref b26), (.ref b1), (.int (own_run vals cs r f t 13))])) t_
    exact k_
  refine own_callS X94 hx hZ hown (hw _ (List.mem_of_getElem? (i := 21) rfl)) (hw _ (List.mem_of_getElem? (i := 22) rfl)) (hw _ (List.mem_of_getElem? (i := 3) rfl)) (hw _ (List.mem_of_getElem? (i := 23) rfl)) (by decide) [(.int (own_run vals cs r f t 13)), (.ref b1), (.ref b26), (.int (13 : Int32)), (.int (own_f f)), (.int (own_t f t))] [] (rm5 l Z a0 hw (own_run vals cs r f t 13) b1 b26 (13 : Int32) (own_f f) (own_t f t) k1 k26 (own_vals vals) (own_chars cs) 13 h80 n0 Z0 A_b1 A_b26 (own_hc cs) (by decide) (by decide)) 0 (by decide) (by decide) e94 (by rw [hml]; rfl) (lenOf own_pd5 rfl) rfl (Nat.le_of_eq rfl) (hb hby at_635) (by decide) (by decide) ?_
  intro v95 T95 L95 X95 q95
  obtain ⟨rfl, N95q, e95⟩ := q95
  have N95 := Fr.app N94 N95q
  rw [show f5 (own_run vals cs r f t 13) (13 : Int32) (own_f f) (own_t f t) (own_u (own_vals vals) (own_chars cs) 13) = own_run vals cs r f t 14 from own_runS vals cs r f t (13 : Int32) 13 (by decide) (by decide)]
  show own_Out p_ e_ below s_ _ _ _ T95 (mkF m_ 638 #[.val (.long vals), .second, .val (.long cs), .second, .val (.int r), .val (.int f), .val (.int t), .val (.ref b1), .val (.ref b26), .val (.int (own_r r)), .val (.int (own_f f)), .val (.int (own_t f t)), .val (.int (own_fold (own_u (own_vals vals) (own_chars cs)) (own_r r) (own_fn f) (own_tn f t - own_fn f))), .val (.int (own_run vals cs r f t 13))] [(.int (own_run vals cs r f t 14))])
  refine own_st T95 (mkF m_ 652 #[.val (.long vals), .second, .val (.long cs), .second, .val (.int r), .val (.int f), .val (.int t), .val (.ref b1), .val (.ref b26), .val (.int (own_r r)), .val (.int (own_f f)), .val (.int (own_t f t)), .val (.int (own_fold (own_u (own_vals vals) (own_chars cs)) (own_r r) (own_fn f) (own_tn f t - own_fn f))), .val (.int (own_run vals cs r f t 14))] [(.int (own_t f t)), (.int (own_f f)), (.int (14 : Int32)), (.ref b26), (.ref b1), (.int (own_run vals cs r f t 14))]) (fun t_ k_ => ?_) ?_
  · refine XS.istore X95.here hx rfl (hb hby at_638) rfl (l' := #[.val (.long vals), .second, .val (.long cs), .second, .val (.int r), .val (.int f), .val (.int t), .val (.ref b1), .val (.ref b26), .val (.int (own_r r)), .val (.int (own_f f)), .val (.int (own_t f t)), .val (.int (own_fold (own_u (own_vals vals) (own_chars cs)) (own_r r) (own_fn f) (own_tn f t - own_fn f))), .val (.int (own_run vals cs r f t 14))]) rfl ?_
    show Steps p_.tables e_ below (T95.setTop (mkF m_ 640 #[.val (.long vals), .second, .val (.long cs), .second, .val (.int r), .val (.int f), .val (.int t), .val (.ref b1), .val (.ref b26), .val (.int (own_r r)), .val (.int (own_f f)), .val (.int (own_t f t)), .val (.int (own_fold (own_u (own_vals vals) (own_chars cs)) (own_r r) (own_fn f) (own_tn f t - own_fn f))), .val (.int (own_run vals cs r f t 14))] [])) t_
    refine XS.iload X95.here hx rfl (hb hby at_640) rfl ?_
    show Steps p_.tables e_ below (T95.setTop (mkF m_ 642 #[.val (.long vals), .second, .val (.long cs), .second, .val (.int r), .val (.int f), .val (.int t), .val (.ref b1), .val (.ref b26), .val (.int (own_r r)), .val (.int (own_f f)), .val (.int (own_t f t)), .val (.int (own_fold (own_u (own_vals vals) (own_chars cs)) (own_r r) (own_fn f) (own_tn f t - own_fn f))), .val (.int (own_run vals cs r f t 14))] [(.int (own_run vals cs r f t 14))])) t_
    refine XS.aload X95.here hx rfl (hb hby at_642) rfl rfl ?_
    show Steps p_.tables e_ below (T95.setTop (mkF m_ 644 #[.val (.long vals), .second, .val (.long cs), .second, .val (.int r), .val (.int f), .val (.int t), .val (.ref b1), .val (.ref b26), .val (.int (own_r r)), .val (.int (own_f f)), .val (.int (own_t f t)), .val (.int (own_fold (own_u (own_vals vals) (own_chars cs)) (own_r r) (own_fn f) (own_tn f t - own_fn f))), .val (.int (own_run vals cs r f t 14))] [(.ref b1), (.int (own_run vals cs r f t 14))])) t_
    refine XS.aload X95.here hx rfl (hb hby at_644) rfl rfl ?_
    show Steps p_.tables e_ below (T95.setTop (mkF m_ 646 #[.val (.long vals), .second, .val (.long cs), .second, .val (.int r), .val (.int f), .val (.int t), .val (.ref b1), .val (.ref b26), .val (.int (own_r r)), .val (.int (own_f f)), .val (.int (own_t f t)), .val (.int (own_fold (own_u (own_vals vals) (own_chars cs)) (own_r r) (own_fn f) (own_tn f t - own_fn f))), .val (.int (own_run vals cs r f t 14))] [(.ref b26), (.ref b1), (.int (own_run vals cs r f t 14))])) t_
    refine XS.bipush X95.here hx rfl (hb hby at_646) ?_
    show Steps p_.tables e_ below (T95.setTop (mkF m_ 648 #[.val (.long vals), .second, .val (.long cs), .second, .val (.int r), .val (.int f), .val (.int t), .val (.ref b1), .val (.ref b26), .val (.int (own_r r)), .val (.int (own_f f)), .val (.int (own_t f t)), .val (.int (own_fold (own_u (own_vals vals) (own_chars cs)) (own_r r) (own_fn f) (own_tn f t - own_fn f))), .val (.int (own_run vals cs r f t 14))] [(.int (14 : Int32)), (.ref b26), (.ref b1), (.int (own_run vals cs r f t 14))])) t_
    refine XS.iload X95.here hx rfl (hb hby at_648) rfl ?_
    show Steps p_.tables e_ below (T95.setTop (mkF m_ 650 #[.val (.long vals), .second, .val (.long cs), .second, .val (.int r), .val (.int f), .val (.int t), .val (.ref b1), .val (.ref b26), .val (.int (own_r r)), .val (.int (own_f f)), .val (.int (own_t f t)), .val (.int (own_fold (own_u (own_vals vals) (own_chars cs)) (own_r r) (own_fn f) (own_tn f t - own_fn f))), .val (.int (own_run vals cs r f t 14))] [(.int (own_f f)), (.int (14 : Int32)), (.ref b26), (.ref b1), (.int (own_run vals cs r f t 14))])) t_
    refine XS.iload X95.here hx rfl (hb hby at_650) rfl ?_
    show Steps p_.tables e_ below (T95.setTop (mkF m_ 652 #[.val (.long vals), .second, .val (.long cs), .second, .val (.int r), .val (.int f), .val (.int t), .val (.ref b1), .val (.ref b26), .val (.int (own_r r)), .val (.int (own_f f)), .val (.int (own_t f t)), .val (.int (own_fold (own_u (own_vals vals) (own_chars cs)) (own_r r) (own_fn f) (own_tn f t - own_fn f))), .val (.int (own_run vals cs r f t 14))] [(.int (own_t f t)), (.int (own_f f)), (.int (14 : Int32)), (.ref b26), (.ref b1), (.int (own_run vals cs r f t 14))])) t_
    exact k_
  refine own_callS X95 hx hZ hown (hw _ (List.mem_of_getElem? (i := 21) rfl)) (hw _ (List.mem_of_getElem? (i := 22) rfl)) (hw _ (List.mem_of_getElem? (i := 3) rfl)) (hw _ (List.mem_of_getElem? (i := 23) rfl)) (by decide) [(.int (own_run vals cs r f t 14)), (.ref b1), (.ref b26), (.int (14 : Int32)), (.int (own_f f)), (.int (own_t f t))] [] (rm5 l Z a0 hw (own_run vals cs r f t 14) b1 b26 (14 : Int32) (own_f f) (own_t f t) k1 k26 (own_vals vals) (own_chars cs) 14 h80 n0 Z0 A_b1 A_b26 (own_hc cs) (by decide) (by decide)) 0 (by decide) (by decide) e95 (by rw [hml]; rfl) (lenOf own_pd5 rfl) rfl (Nat.le_of_eq rfl) (hb hby at_652) (by decide) (by decide) ?_
  intro v96 T96 L96 X96 q96
  obtain ⟨rfl, N96q, e96⟩ := q96
  have N96 := Fr.app N95 N96q
  rw [show f5 (own_run vals cs r f t 14) (14 : Int32) (own_f f) (own_t f t) (own_u (own_vals vals) (own_chars cs) 14) = own_run vals cs r f t 15 from own_runS vals cs r f t (14 : Int32) 14 (by decide) (by decide)]
  show own_Out p_ e_ below s_ _ _ _ T96 (mkF m_ 655 #[.val (.long vals), .second, .val (.long cs), .second, .val (.int r), .val (.int f), .val (.int t), .val (.ref b1), .val (.ref b26), .val (.int (own_r r)), .val (.int (own_f f)), .val (.int (own_t f t)), .val (.int (own_fold (own_u (own_vals vals) (own_chars cs)) (own_r r) (own_fn f) (own_tn f t - own_fn f))), .val (.int (own_run vals cs r f t 14))] [(.int (own_run vals cs r f t 15))])
  refine own_st T96 (mkF m_ 669 #[.val (.long vals), .second, .val (.long cs), .second, .val (.int r), .val (.int f), .val (.int t), .val (.ref b1), .val (.ref b26), .val (.int (own_r r)), .val (.int (own_f f)), .val (.int (own_t f t)), .val (.int (own_fold (own_u (own_vals vals) (own_chars cs)) (own_r r) (own_fn f) (own_tn f t - own_fn f))), .val (.int (own_run vals cs r f t 15))] [(.int (own_t f t)), (.int (own_f f)), (.int (15 : Int32)), (.ref b26), (.ref b1), (.int (own_run vals cs r f t 15))]) (fun t_ k_ => ?_) ?_
  · refine XS.istore X96.here hx rfl (hb hby at_655) rfl (l' := #[.val (.long vals), .second, .val (.long cs), .second, .val (.int r), .val (.int f), .val (.int t), .val (.ref b1), .val (.ref b26), .val (.int (own_r r)), .val (.int (own_f f)), .val (.int (own_t f t)), .val (.int (own_fold (own_u (own_vals vals) (own_chars cs)) (own_r r) (own_fn f) (own_tn f t - own_fn f))), .val (.int (own_run vals cs r f t 15))]) rfl ?_
    show Steps p_.tables e_ below (T96.setTop (mkF m_ 657 #[.val (.long vals), .second, .val (.long cs), .second, .val (.int r), .val (.int f), .val (.int t), .val (.ref b1), .val (.ref b26), .val (.int (own_r r)), .val (.int (own_f f)), .val (.int (own_t f t)), .val (.int (own_fold (own_u (own_vals vals) (own_chars cs)) (own_r r) (own_fn f) (own_tn f t - own_fn f))), .val (.int (own_run vals cs r f t 15))] [])) t_
    refine XS.iload X96.here hx rfl (hb hby at_657) rfl ?_
    show Steps p_.tables e_ below (T96.setTop (mkF m_ 659 #[.val (.long vals), .second, .val (.long cs), .second, .val (.int r), .val (.int f), .val (.int t), .val (.ref b1), .val (.ref b26), .val (.int (own_r r)), .val (.int (own_f f)), .val (.int (own_t f t)), .val (.int (own_fold (own_u (own_vals vals) (own_chars cs)) (own_r r) (own_fn f) (own_tn f t - own_fn f))), .val (.int (own_run vals cs r f t 15))] [(.int (own_run vals cs r f t 15))])) t_
    refine XS.aload X96.here hx rfl (hb hby at_659) rfl rfl ?_
    show Steps p_.tables e_ below (T96.setTop (mkF m_ 661 #[.val (.long vals), .second, .val (.long cs), .second, .val (.int r), .val (.int f), .val (.int t), .val (.ref b1), .val (.ref b26), .val (.int (own_r r)), .val (.int (own_f f)), .val (.int (own_t f t)), .val (.int (own_fold (own_u (own_vals vals) (own_chars cs)) (own_r r) (own_fn f) (own_tn f t - own_fn f))), .val (.int (own_run vals cs r f t 15))] [(.ref b1), (.int (own_run vals cs r f t 15))])) t_
    refine XS.aload X96.here hx rfl (hb hby at_661) rfl rfl ?_
    show Steps p_.tables e_ below (T96.setTop (mkF m_ 663 #[.val (.long vals), .second, .val (.long cs), .second, .val (.int r), .val (.int f), .val (.int t), .val (.ref b1), .val (.ref b26), .val (.int (own_r r)), .val (.int (own_f f)), .val (.int (own_t f t)), .val (.int (own_fold (own_u (own_vals vals) (own_chars cs)) (own_r r) (own_fn f) (own_tn f t - own_fn f))), .val (.int (own_run vals cs r f t 15))] [(.ref b26), (.ref b1), (.int (own_run vals cs r f t 15))])) t_
    refine XS.bipush X96.here hx rfl (hb hby at_663) ?_
    show Steps p_.tables e_ below (T96.setTop (mkF m_ 665 #[.val (.long vals), .second, .val (.long cs), .second, .val (.int r), .val (.int f), .val (.int t), .val (.ref b1), .val (.ref b26), .val (.int (own_r r)), .val (.int (own_f f)), .val (.int (own_t f t)), .val (.int (own_fold (own_u (own_vals vals) (own_chars cs)) (own_r r) (own_fn f) (own_tn f t - own_fn f))), .val (.int (own_run vals cs r f t 15))] [(.int (15 : Int32)), (.ref b26), (.ref b1), (.int (own_run vals cs r f t 15))])) t_
    refine XS.iload X96.here hx rfl (hb hby at_665) rfl ?_
    show Steps p_.tables e_ below (T96.setTop (mkF m_ 667 #[.val (.long vals), .second, .val (.long cs), .second, .val (.int r), .val (.int f), .val (.int t), .val (.ref b1), .val (.ref b26), .val (.int (own_r r)), .val (.int (own_f f)), .val (.int (own_t f t)), .val (.int (own_fold (own_u (own_vals vals) (own_chars cs)) (own_r r) (own_fn f) (own_tn f t - own_fn f))), .val (.int (own_run vals cs r f t 15))] [(.int (own_f f)), (.int (15 : Int32)), (.ref b26), (.ref b1), (.int (own_run vals cs r f t 15))])) t_
    refine XS.iload X96.here hx rfl (hb hby at_667) rfl ?_
    show Steps p_.tables e_ below (T96.setTop (mkF m_ 669 #[.val (.long vals), .second, .val (.long cs), .second, .val (.int r), .val (.int f), .val (.int t), .val (.ref b1), .val (.ref b26), .val (.int (own_r r)), .val (.int (own_f f)), .val (.int (own_t f t)), .val (.int (own_fold (own_u (own_vals vals) (own_chars cs)) (own_r r) (own_fn f) (own_tn f t - own_fn f))), .val (.int (own_run vals cs r f t 15))] [(.int (own_t f t)), (.int (own_f f)), (.int (15 : Int32)), (.ref b26), (.ref b1), (.int (own_run vals cs r f t 15))])) t_
    exact k_
  refine own_callS X96 hx hZ hown (hw _ (List.mem_of_getElem? (i := 21) rfl)) (hw _ (List.mem_of_getElem? (i := 22) rfl)) (hw _ (List.mem_of_getElem? (i := 3) rfl)) (hw _ (List.mem_of_getElem? (i := 23) rfl)) (by decide) [(.int (own_run vals cs r f t 15)), (.ref b1), (.ref b26), (.int (15 : Int32)), (.int (own_f f)), (.int (own_t f t))] [] (rm5 l Z a0 hw (own_run vals cs r f t 15) b1 b26 (15 : Int32) (own_f f) (own_t f t) k1 k26 (own_vals vals) (own_chars cs) 15 h80 n0 Z0 A_b1 A_b26 (own_hc cs) (by decide) (by decide)) 0 (by decide) (by decide) e96 (by rw [hml]; rfl) (lenOf own_pd5 rfl) rfl (Nat.le_of_eq rfl) (hb hby at_669) (by decide) (by decide) ?_
  intro v97 T97 L97 X97 q97
  obtain ⟨rfl, N97q, e97⟩ := q97
  have N97 := Fr.app N96 N97q
  rw [show f5 (own_run vals cs r f t 15) (15 : Int32) (own_f f) (own_t f t) (own_u (own_vals vals) (own_chars cs) 15) = own_run vals cs r f t 16 from own_runS vals cs r f t (15 : Int32) 15 (by decide) (by decide)]
  show own_Out p_ e_ below s_ _ _ _ T97 (mkF m_ 672 #[.val (.long vals), .second, .val (.long cs), .second, .val (.int r), .val (.int f), .val (.int t), .val (.ref b1), .val (.ref b26), .val (.int (own_r r)), .val (.int (own_f f)), .val (.int (own_t f t)), .val (.int (own_fold (own_u (own_vals vals) (own_chars cs)) (own_r r) (own_fn f) (own_tn f t - own_fn f))), .val (.int (own_run vals cs r f t 15))] [(.int (own_run vals cs r f t 16))])
  refine own_st T97 (mkF m_ 686 #[.val (.long vals), .second, .val (.long cs), .second, .val (.int r), .val (.int f), .val (.int t), .val (.ref b1), .val (.ref b26), .val (.int (own_r r)), .val (.int (own_f f)), .val (.int (own_t f t)), .val (.int (own_fold (own_u (own_vals vals) (own_chars cs)) (own_r r) (own_fn f) (own_tn f t - own_fn f))), .val (.int (own_run vals cs r f t 16))] [(.int (own_t f t)), (.int (own_f f)), (.int (16 : Int32)), (.ref b26), (.ref b1), (.int (own_run vals cs r f t 16))]) (fun t_ k_ => ?_) ?_
  · refine XS.istore X97.here hx rfl (hb hby at_672) rfl (l' := #[.val (.long vals), .second, .val (.long cs), .second, .val (.int r), .val (.int f), .val (.int t), .val (.ref b1), .val (.ref b26), .val (.int (own_r r)), .val (.int (own_f f)), .val (.int (own_t f t)), .val (.int (own_fold (own_u (own_vals vals) (own_chars cs)) (own_r r) (own_fn f) (own_tn f t - own_fn f))), .val (.int (own_run vals cs r f t 16))]) rfl ?_
    show Steps p_.tables e_ below (T97.setTop (mkF m_ 674 #[.val (.long vals), .second, .val (.long cs), .second, .val (.int r), .val (.int f), .val (.int t), .val (.ref b1), .val (.ref b26), .val (.int (own_r r)), .val (.int (own_f f)), .val (.int (own_t f t)), .val (.int (own_fold (own_u (own_vals vals) (own_chars cs)) (own_r r) (own_fn f) (own_tn f t - own_fn f))), .val (.int (own_run vals cs r f t 16))] [])) t_
    refine XS.iload X97.here hx rfl (hb hby at_674) rfl ?_
    show Steps p_.tables e_ below (T97.setTop (mkF m_ 676 #[.val (.long vals), .second, .val (.long cs), .second, .val (.int r), .val (.int f), .val (.int t), .val (.ref b1), .val (.ref b26), .val (.int (own_r r)), .val (.int (own_f f)), .val (.int (own_t f t)), .val (.int (own_fold (own_u (own_vals vals) (own_chars cs)) (own_r r) (own_fn f) (own_tn f t - own_fn f))), .val (.int (own_run vals cs r f t 16))] [(.int (own_run vals cs r f t 16))])) t_
    refine XS.aload X97.here hx rfl (hb hby at_676) rfl rfl ?_
    show Steps p_.tables e_ below (T97.setTop (mkF m_ 678 #[.val (.long vals), .second, .val (.long cs), .second, .val (.int r), .val (.int f), .val (.int t), .val (.ref b1), .val (.ref b26), .val (.int (own_r r)), .val (.int (own_f f)), .val (.int (own_t f t)), .val (.int (own_fold (own_u (own_vals vals) (own_chars cs)) (own_r r) (own_fn f) (own_tn f t - own_fn f))), .val (.int (own_run vals cs r f t 16))] [(.ref b1), (.int (own_run vals cs r f t 16))])) t_
    refine XS.aload X97.here hx rfl (hb hby at_678) rfl rfl ?_
    show Steps p_.tables e_ below (T97.setTop (mkF m_ 680 #[.val (.long vals), .second, .val (.long cs), .second, .val (.int r), .val (.int f), .val (.int t), .val (.ref b1), .val (.ref b26), .val (.int (own_r r)), .val (.int (own_f f)), .val (.int (own_t f t)), .val (.int (own_fold (own_u (own_vals vals) (own_chars cs)) (own_r r) (own_fn f) (own_tn f t - own_fn f))), .val (.int (own_run vals cs r f t 16))] [(.ref b26), (.ref b1), (.int (own_run vals cs r f t 16))])) t_
    refine XS.bipush X97.here hx rfl (hb hby at_680) ?_
    show Steps p_.tables e_ below (T97.setTop (mkF m_ 682 #[.val (.long vals), .second, .val (.long cs), .second, .val (.int r), .val (.int f), .val (.int t), .val (.ref b1), .val (.ref b26), .val (.int (own_r r)), .val (.int (own_f f)), .val (.int (own_t f t)), .val (.int (own_fold (own_u (own_vals vals) (own_chars cs)) (own_r r) (own_fn f) (own_tn f t - own_fn f))), .val (.int (own_run vals cs r f t 16))] [(.int (16 : Int32)), (.ref b26), (.ref b1), (.int (own_run vals cs r f t 16))])) t_
    refine XS.iload X97.here hx rfl (hb hby at_682) rfl ?_
    show Steps p_.tables e_ below (T97.setTop (mkF m_ 684 #[.val (.long vals), .second, .val (.long cs), .second, .val (.int r), .val (.int f), .val (.int t), .val (.ref b1), .val (.ref b26), .val (.int (own_r r)), .val (.int (own_f f)), .val (.int (own_t f t)), .val (.int (own_fold (own_u (own_vals vals) (own_chars cs)) (own_r r) (own_fn f) (own_tn f t - own_fn f))), .val (.int (own_run vals cs r f t 16))] [(.int (own_f f)), (.int (16 : Int32)), (.ref b26), (.ref b1), (.int (own_run vals cs r f t 16))])) t_
    refine XS.iload X97.here hx rfl (hb hby at_684) rfl ?_
    show Steps p_.tables e_ below (T97.setTop (mkF m_ 686 #[.val (.long vals), .second, .val (.long cs), .second, .val (.int r), .val (.int f), .val (.int t), .val (.ref b1), .val (.ref b26), .val (.int (own_r r)), .val (.int (own_f f)), .val (.int (own_t f t)), .val (.int (own_fold (own_u (own_vals vals) (own_chars cs)) (own_r r) (own_fn f) (own_tn f t - own_fn f))), .val (.int (own_run vals cs r f t 16))] [(.int (own_t f t)), (.int (own_f f)), (.int (16 : Int32)), (.ref b26), (.ref b1), (.int (own_run vals cs r f t 16))])) t_
    exact k_
  refine own_callS X97 hx hZ hown (hw _ (List.mem_of_getElem? (i := 21) rfl)) (hw _ (List.mem_of_getElem? (i := 22) rfl)) (hw _ (List.mem_of_getElem? (i := 3) rfl)) (hw _ (List.mem_of_getElem? (i := 23) rfl)) (by decide) [(.int (own_run vals cs r f t 16)), (.ref b1), (.ref b26), (.int (16 : Int32)), (.int (own_f f)), (.int (own_t f t))] [] (rm5 l Z a0 hw (own_run vals cs r f t 16) b1 b26 (16 : Int32) (own_f f) (own_t f t) k1 k26 (own_vals vals) (own_chars cs) 16 h80 n0 Z0 A_b1 A_b26 (own_hc cs) (by decide) (by decide)) 0 (by decide) (by decide) e97 (by rw [hml]; rfl) (lenOf own_pd5 rfl) rfl (Nat.le_of_eq rfl) (hb hby at_686) (by decide) (by decide) ?_
  intro v98 T98 L98 X98 q98
  obtain ⟨rfl, N98q, e98⟩ := q98
  have N98 := Fr.app N97 N98q
  rw [show f5 (own_run vals cs r f t 16) (16 : Int32) (own_f f) (own_t f t) (own_u (own_vals vals) (own_chars cs) 16) = own_run vals cs r f t 17 from own_runS vals cs r f t (16 : Int32) 16 (by decide) (by decide)]
  show own_Out p_ e_ below s_ _ _ _ T98 (mkF m_ 689 #[.val (.long vals), .second, .val (.long cs), .second, .val (.int r), .val (.int f), .val (.int t), .val (.ref b1), .val (.ref b26), .val (.int (own_r r)), .val (.int (own_f f)), .val (.int (own_t f t)), .val (.int (own_fold (own_u (own_vals vals) (own_chars cs)) (own_r r) (own_fn f) (own_tn f t - own_fn f))), .val (.int (own_run vals cs r f t 16))] [(.int (own_run vals cs r f t 17))])
  refine own_st T98 (mkF m_ 703 #[.val (.long vals), .second, .val (.long cs), .second, .val (.int r), .val (.int f), .val (.int t), .val (.ref b1), .val (.ref b26), .val (.int (own_r r)), .val (.int (own_f f)), .val (.int (own_t f t)), .val (.int (own_fold (own_u (own_vals vals) (own_chars cs)) (own_r r) (own_fn f) (own_tn f t - own_fn f))), .val (.int (own_run vals cs r f t 17))] [(.int (own_t f t)), (.int (own_f f)), (.int (17 : Int32)), (.ref b26), (.ref b1), (.int (own_run vals cs r f t 17))]) (fun t_ k_ => ?_) ?_
  · refine XS.istore X98.here hx rfl (hb hby at_689) rfl (l' := #[.val (.long vals), .second, .val (.long cs), .second, .val (.int r), .val (.int f), .val (.int t), .val (.ref b1), .val (.ref b26), .val (.int (own_r r)), .val (.int (own_f f)), .val (.int (own_t f t)), .val (.int (own_fold (own_u (own_vals vals) (own_chars cs)) (own_r r) (own_fn f) (own_tn f t - own_fn f))), .val (.int (own_run vals cs r f t 17))]) rfl ?_
    show Steps p_.tables e_ below (T98.setTop (mkF m_ 691 #[.val (.long vals), .second, .val (.long cs), .second, .val (.int r), .val (.int f), .val (.int t), .val (.ref b1), .val (.ref b26), .val (.int (own_r r)), .val (.int (own_f f)), .val (.int (own_t f t)), .val (.int (own_fold (own_u (own_vals vals) (own_chars cs)) (own_r r) (own_fn f) (own_tn f t - own_fn f))), .val (.int (own_run vals cs r f t 17))] [])) t_
    refine XS.iload X98.here hx rfl (hb hby at_691) rfl ?_
    show Steps p_.tables e_ below (T98.setTop (mkF m_ 693 #[.val (.long vals), .second, .val (.long cs), .second, .val (.int r), .val (.int f), .val (.int t), .val (.ref b1), .val (.ref b26), .val (.int (own_r r)), .val (.int (own_f f)), .val (.int (own_t f t)), .val (.int (own_fold (own_u (own_vals vals) (own_chars cs)) (own_r r) (own_fn f) (own_tn f t - own_fn f))), .val (.int (own_run vals cs r f t 17))] [(.int (own_run vals cs r f t 17))])) t_
    refine XS.aload X98.here hx rfl (hb hby at_693) rfl rfl ?_
    show Steps p_.tables e_ below (T98.setTop (mkF m_ 695 #[.val (.long vals), .second, .val (.long cs), .second, .val (.int r), .val (.int f), .val (.int t), .val (.ref b1), .val (.ref b26), .val (.int (own_r r)), .val (.int (own_f f)), .val (.int (own_t f t)), .val (.int (own_fold (own_u (own_vals vals) (own_chars cs)) (own_r r) (own_fn f) (own_tn f t - own_fn f))), .val (.int (own_run vals cs r f t 17))] [(.ref b1), (.int (own_run vals cs r f t 17))])) t_
    refine XS.aload X98.here hx rfl (hb hby at_695) rfl rfl ?_
    show Steps p_.tables e_ below (T98.setTop (mkF m_ 697 #[.val (.long vals), .second, .val (.long cs), .second, .val (.int r), .val (.int f), .val (.int t), .val (.ref b1), .val (.ref b26), .val (.int (own_r r)), .val (.int (own_f f)), .val (.int (own_t f t)), .val (.int (own_fold (own_u (own_vals vals) (own_chars cs)) (own_r r) (own_fn f) (own_tn f t - own_fn f))), .val (.int (own_run vals cs r f t 17))] [(.ref b26), (.ref b1), (.int (own_run vals cs r f t 17))])) t_
    refine XS.bipush X98.here hx rfl (hb hby at_697) ?_
    show Steps p_.tables e_ below (T98.setTop (mkF m_ 699 #[.val (.long vals), .second, .val (.long cs), .second, .val (.int r), .val (.int f), .val (.int t), .val (.ref b1), .val (.ref b26), .val (.int (own_r r)), .val (.int (own_f f)), .val (.int (own_t f t)), .val (.int (own_fold (own_u (own_vals vals) (own_chars cs)) (own_r r) (own_fn f) (own_tn f t - own_fn f))), .val (.int (own_run vals cs r f t 17))] [(.int (17 : Int32)), (.ref b26), (.ref b1), (.int (own_run vals cs r f t 17))])) t_
    refine XS.iload X98.here hx rfl (hb hby at_699) rfl ?_
    show Steps p_.tables e_ below (T98.setTop (mkF m_ 701 #[.val (.long vals), .second, .val (.long cs), .second, .val (.int r), .val (.int f), .val (.int t), .val (.ref b1), .val (.ref b26), .val (.int (own_r r)), .val (.int (own_f f)), .val (.int (own_t f t)), .val (.int (own_fold (own_u (own_vals vals) (own_chars cs)) (own_r r) (own_fn f) (own_tn f t - own_fn f))), .val (.int (own_run vals cs r f t 17))] [(.int (own_f f)), (.int (17 : Int32)), (.ref b26), (.ref b1), (.int (own_run vals cs r f t 17))])) t_
    refine XS.iload X98.here hx rfl (hb hby at_701) rfl ?_
    show Steps p_.tables e_ below (T98.setTop (mkF m_ 703 #[.val (.long vals), .second, .val (.long cs), .second, .val (.int r), .val (.int f), .val (.int t), .val (.ref b1), .val (.ref b26), .val (.int (own_r r)), .val (.int (own_f f)), .val (.int (own_t f t)), .val (.int (own_fold (own_u (own_vals vals) (own_chars cs)) (own_r r) (own_fn f) (own_tn f t - own_fn f))), .val (.int (own_run vals cs r f t 17))] [(.int (own_t f t)), (.int (own_f f)), (.int (17 : Int32)), (.ref b26), (.ref b1), (.int (own_run vals cs r f t 17))])) t_
    exact k_
  refine own_callS X98 hx hZ hown (hw _ (List.mem_of_getElem? (i := 21) rfl)) (hw _ (List.mem_of_getElem? (i := 22) rfl)) (hw _ (List.mem_of_getElem? (i := 3) rfl)) (hw _ (List.mem_of_getElem? (i := 23) rfl)) (by decide) [(.int (own_run vals cs r f t 17)), (.ref b1), (.ref b26), (.int (17 : Int32)), (.int (own_f f)), (.int (own_t f t))] [] (rm5 l Z a0 hw (own_run vals cs r f t 17) b1 b26 (17 : Int32) (own_f f) (own_t f t) k1 k26 (own_vals vals) (own_chars cs) 17 h80 n0 Z0 A_b1 A_b26 (own_hc cs) (by decide) (by decide)) 0 (by decide) (by decide) e98 (by rw [hml]; rfl) (lenOf own_pd5 rfl) rfl (Nat.le_of_eq rfl) (hb hby at_703) (by decide) (by decide) ?_
  intro v99 T99 L99 X99 q99
  obtain ⟨rfl, N99q, e99⟩ := q99
  have N99 := Fr.app N98 N99q
  rw [show f5 (own_run vals cs r f t 17) (17 : Int32) (own_f f) (own_t f t) (own_u (own_vals vals) (own_chars cs) 17) = own_run vals cs r f t 18 from own_runS vals cs r f t (17 : Int32) 17 (by decide) (by decide)]
  show own_Out p_ e_ below s_ _ _ _ T99 (mkF m_ 706 #[.val (.long vals), .second, .val (.long cs), .second, .val (.int r), .val (.int f), .val (.int t), .val (.ref b1), .val (.ref b26), .val (.int (own_r r)), .val (.int (own_f f)), .val (.int (own_t f t)), .val (.int (own_fold (own_u (own_vals vals) (own_chars cs)) (own_r r) (own_fn f) (own_tn f t - own_fn f))), .val (.int (own_run vals cs r f t 17))] [(.int (own_run vals cs r f t 18))])
  refine own_st T99 (mkF m_ 720 #[.val (.long vals), .second, .val (.long cs), .second, .val (.int r), .val (.int f), .val (.int t), .val (.ref b1), .val (.ref b26), .val (.int (own_r r)), .val (.int (own_f f)), .val (.int (own_t f t)), .val (.int (own_fold (own_u (own_vals vals) (own_chars cs)) (own_r r) (own_fn f) (own_tn f t - own_fn f))), .val (.int (own_run vals cs r f t 18))] [(.int (1 : Int32))]) (fun t_ k_ => ?_) ?_
  · refine XS.istore X99.here hx rfl (hb hby at_706) rfl (l' := #[.val (.long vals), .second, .val (.long cs), .second, .val (.int r), .val (.int f), .val (.int t), .val (.ref b1), .val (.ref b26), .val (.int (own_r r)), .val (.int (own_f f)), .val (.int (own_t f t)), .val (.int (own_fold (own_u (own_vals vals) (own_chars cs)) (own_r r) (own_fn f) (own_tn f t - own_fn f))), .val (.int (own_run vals cs r f t 18))]) rfl ?_
    show Steps p_.tables e_ below (T99.setTop (mkF m_ 708 #[.val (.long vals), .second, .val (.long cs), .second, .val (.int r), .val (.int f), .val (.int t), .val (.ref b1), .val (.ref b26), .val (.int (own_r r)), .val (.int (own_f f)), .val (.int (own_t f t)), .val (.int (own_fold (own_u (own_vals vals) (own_chars cs)) (own_r r) (own_fn f) (own_tn f t - own_fn f))), .val (.int (own_run vals cs r f t 18))] [])) t_
    refine XS.iload X99.here hx rfl (hb hby at_708) rfl ?_
    show Steps p_.tables e_ below (T99.setTop (mkF m_ 710 #[.val (.long vals), .second, .val (.long cs), .second, .val (.int r), .val (.int f), .val (.int t), .val (.ref b1), .val (.ref b26), .val (.int (own_r r)), .val (.int (own_f f)), .val (.int (own_t f t)), .val (.int (own_fold (own_u (own_vals vals) (own_chars cs)) (own_r r) (own_fn f) (own_tn f t - own_fn f))), .val (.int (own_run vals cs r f t 18))] [(.int (own_fold (own_u (own_vals vals) (own_chars cs)) (own_r r) (own_fn f) (own_tn f t - own_fn f)))])) t_
    refine XS.iload X99.here hx rfl (hb hby at_710) rfl ?_
    show Steps p_.tables e_ below (T99.setTop (mkF m_ 712 #[.val (.long vals), .second, .val (.long cs), .second, .val (.int r), .val (.int f), .val (.int t), .val (.ref b1), .val (.ref b26), .val (.int (own_r r)), .val (.int (own_f f)), .val (.int (own_t f t)), .val (.int (own_fold (own_u (own_vals vals) (own_chars cs)) (own_r r) (own_fn f) (own_tn f t - own_fn f))), .val (.int (own_run vals cs r f t 18))] [(.int (own_run vals cs r f t 18)), (.int (own_fold (own_u (own_vals vals) (own_chars cs)) (own_r r) (own_fn f) (own_tn f t - own_fn f)))])) t_
    refine XS.icmpNo X99.here hx rfl (hb hby at_712) rfl (teq (own_fin vals cs r f t : (own_fold (own_u (own_vals vals) (own_chars cs)) (own_r r) (own_fn f) (own_tn f t - own_fn f)) = (own_run vals cs r f t 18))).2 ?_
    show Steps p_.tables e_ below (T99.setTop (mkF m_ 715 #[.val (.long vals), .second, .val (.long cs), .second, .val (.int r), .val (.int f), .val (.int t), .val (.ref b1), .val (.ref b26), .val (.int (own_r r)), .val (.int (own_f f)), .val (.int (own_t f t)), .val (.int (own_fold (own_u (own_vals vals) (own_chars cs)) (own_r r) (own_fn f) (own_tn f t - own_fn f))), .val (.int (own_run vals cs r f t 18))] [])) t_
    refine XS.iconst X99.here hx rfl (hb hby at_715) ?_
    show Steps p_.tables e_ below (T99.setTop (mkF m_ 716 #[.val (.long vals), .second, .val (.long cs), .second, .val (.int r), .val (.int f), .val (.int t), .val (.ref b1), .val (.ref b26), .val (.int (own_r r)), .val (.int (own_f f)), .val (.int (own_t f t)), .val (.int (own_fold (own_u (own_vals vals) (own_chars cs)) (own_r r) (own_fn f) (own_tn f t - own_fn f))), .val (.int (own_run vals cs r f t 18))] [(.int (1 : Int32))])) t_
    refine XS.goto X99.here hx rfl (pc0 := 716) (pc' := 720) rfl (hb hby at_716) (by decide) (by decide) ?_
    show Steps p_.tables e_ below (T99.setTop (mkF m_ 720 #[.val (.long vals), .second, .val (.long cs), .second, .val (.int r), .val (.int f), .val (.int t), .val (.ref b1), .val (.ref b26), .val (.int (own_r r)), .val (.int (own_f f)), .val (.int (own_t f t)), .val (.int (own_fold (own_u (own_vals vals) (own_chars cs)) (own_r r) (own_fn f) (own_tn f t - own_fn f))), .val (.int (own_run vals cs r f t 18))] [(.int (1 : Int32))])) t_
    exact k_
  refine own_retN X99 hx hlk (t := .boolean) hret (by simp) (hb hby at_720) (by decide) (by decide) ?_
  exact ⟨rfl, N99⟩
set_option maxRecDepth 65536 in
set_option maxHeartbeats 40000000 in
theorem comes_1 {Post : Tables → Env → Array Value → State → Outcome → State → Prop} (hpost : ∀ tb e args s v u, (limb_1_1.after args s (.returned v) u = true ∧ limb_1_2.after args s (.returned v) u = true ∧ True) → FrameEnd s (.returned v) u (Jvm.fieldLocs frame_1_writes args s ++ Jvm.arrayLocs frame_1_arrays args s ++ Jvm.staticLocs frame_1_statics s) 16 384 → Post tb e args s (.returned v) u) :
    ArmFor flags0 classFile x code maxLocals ret World_1 tables_1 room_1 Calls_1 rest_1 Pre_1 Post := by
  intro l hfl _ _ p e ha hc hk s m args below hf hA hF happ hP
  obtain ⟨hcalls, hrest, hpre⟩ := hP
  obtain ⟨-, -, -, hnamed, -, -, -, hat⟩ := (Spec.applies_iff hf).mp happ
  obtain ⟨hg, hn⟩ := and_e (Cond.before_iff.mp (show (Jvm.Cond.and given_1 narrow_1).before args s = true from hpre))
  obtain ⟨c0, r0⟩ := and_e hg
  obtain ⟨k0, r1⟩ := and_e r0
  obtain ⟨k1, r2⟩ := and_e r1
  obtain ⟨k2, r3⟩ := and_e r2
  obtain ⟨k3, r4⟩ := and_e r3
  obtain ⟨w0, w1, w2, w3, w4, rfl⟩ : ∃ w0 w1 w2 w3 w4 : Value, args = #[w0, w1, w2, w3, w4] := by
    have hs : args.size = 5 := by simpa [Cond.value, given_1] using c0
    obtain ⟨L⟩ := args
    match L, hs with
    | [w0, w1, w2, w3, w4], _ => exact ⟨w0, w1, w2, w3, w4, rfl⟩
  have hw := fun d (hd : d ∈ tables_1) => atoms_spec (ws := Jvm.Cond.code x code maxLocals ret :: tables_1) hat d (List.mem_cons_of_mem _ hd)
  have hfit : Fit s := fun {y c} hc i hi => by
    obtain ⟨ha, rfl⟩ := Array.getElem?_eq_some_iff.mp hc
    have q := List.all_eq_true.mp ((Array.all_eq_true_iff_forall_mem.mp hF) _ (Array.getElem_mem ha)) i (List.mem_range.mpr hi)
    simpa [Array.getElem?_eq_getElem hi] using q
  obtain ⟨i0, ei0⟩ := isL_v k0
  obtain rfl : w0 = (.long i0) := Option.some.inj ei0
  obtain ⟨i1, ei1⟩ := isL_v k1
  obtain rfl : w1 = (.long i1) := Option.some.inj ei1
  obtain ⟨i2, ei2⟩ := is_v k2
  obtain rfl : w2 = (.int i2) := Option.some.inj ei2
  obtain ⟨i3, ei3⟩ := is_v k3
  obtain rfl : w3 = (.int i3) := Option.some.inj ei3
  obtain ⟨i4, ei4⟩ := is_v r4
  obtain rfl : w4 = (.int i4) := Option.some.inj ei4
  obtain ⟨n, o, h1, h2, h3, _, L, rfl, ⟨rfl, N⟩, hq⟩ := rm0 l s _ hw i0 i1 i2 i3 i4 s.heap s.heap.size (Nat.le_refl _)  tables_1 p e ha hc hk s m _ below hf ((Spec.applies_iff_loose hf).mp happ).1 ⟨rfl, State.Warmed39.refl s, rfl⟩ trivial
  refine ⟨n, _, h1, h2, h3, hpost _ _ _ _ _ _ ⟨Cond.after_iff.mpr rfl, Cond.after_iff.mpr (eq_i res_at (Term.int_eval (1)) rfl), trivial⟩ ⟨hq.1, hq.2.1, (hq.2.2.sift fun y hy => Or.inr (N y hy)).mono (by decide) (by decide)⟩⟩
theorem main_1_1 : Claimed_1_1 := comes_1 fun _ _ _ _ _ _ h hF => ⟨h.1, hF⟩
theorem main_1_2 : Claimed_1_2 := comes_1 fun _ _ _ _ _ _ h hF => ⟨h.2.1, hF⟩
end Jvm.Pilot.@@N@@
namespace Jvm.Pilot.@@N@@
open Jvm Jvm.ClassFile Sem Op Lib Jvm.Free Jvm.Stand Jvm.Pilot.@@N@@.Jvm.D
/-! MADE BY PROGRAM (witnessworld.py) out of the Statement's table words and the real class files: 11 classes; the members and pool entries that the words name. The judged class is class 1, her method 1. -/
namespace start1
open Jvm.ClassFile
def u (s : String) : CpInfo := .utf8 (stringToUtf16 s)
/-- a pool by its gaps: so many unusable entries, then the entry; so many at the end -/
def gap : Nat → List CpInfo → List CpInfo
  | 0, r => r
  | n + 1, r => .unusable :: gap n r
def poolList (es : List (Nat × CpInfo)) (last : Nat) : List CpInfo := es.foldr (fun e r => gap e.1 (e.2 :: r)) (gap last [])
def pool (es : List (Nat × CpInfo)) (last : Nat) : Array CpInfo := ⟨poolList es last⟩
def fileOf (pool : Array CpInfo) (this : Nat) (attrs : Array Attribute := #[]) (ms : Array MethodInfo := #[]) (fl : Nat := 33) (sup : Nat := 0) (ifs : Array Nat := #[]) (fds : Array FieldInfo := #[]) : ClassFile where
  minorVersion := 0
  majorVersion := 65
  constantPool := pool
  accessFlags := fl
  thisClass := this
  superClass := sup
  interfaces := ifs
  fields := fds
  methods := ms
  attributes := attrs
def plain (name : String) (sup : Option ClassId) : Class where
  name := name
  kind := .ordinary
  loader := none
  accessFlags := 33
  super := sup
  interfaces := #[]
  cf := none
  fields := #[]
  methods := #[]
  instanceTypes := #[]
  staticTypes := #[]
  resolved := #[]
  callSites := []
  init := .initialized
  statics := none
  mirror := none

def pool0 : Array CpInfo := pool [(5, u "<init>"), (0, u "()V"), (1, .class_ 10), (1, u "java/lang/Object")] 113

def k0m0 : Method := { name := "<init>", desc := "()V", sig := { parameters := [], returnType := none }, accessFlags := 1, code := none }
/-- java/lang/Object -/
def k0 : Class := { plain "java/lang/Object" none with
  accessFlags := 33
  interfaces := #[]
  cf := some (fileOf pool0 8 #[] #[{ accessFlags := 1, nameIndex := 5, descriptorIndex := 6, attributes := #[] }] 33 0 #[] #[])
  fields := #[]
  methods := #[k0m0]
  instanceTypes := #[]
  staticTypes := #[]
  resolved := Array.replicate 124 none
  statics := none }

def pool1 : Array CpInfo := pool [(2, .class_ 4), (1, u "java/lang/Object"), (0, u "<init>"), (0, u "()V"), (0, .methodref 8 9), (0, .class_ 10), (0, .nameAndType 11 12), (0, u "com/example/banksum/banksum/iban/IbanRemainderPinLaw"), (0, u "code"), (0, u "(I)C"), (0, .methodref 8 14), (0, .nameAndType 15 16), (0, u "val"), (0, u "(JI)B"), (0, .methodref 8 18), (0, .nameAndType 19 20), (0, u "slot"), (0, u "(JI)I"), (0, .integer 2147483647), (0, .methodref 23 24), (0, .class_ 25), (0, .nameAndType 26 27), (0, u "com/example/banksum/banksum/iban/Iban"), (0, u "remainder"), (0, u "([BI[CII)I"), (0, .methodref 8 29), (0, .nameAndType 30 31), (0, u "at"), (0, u "(I[B[CIII)I"), (0, .long 127), (1, .long 100), (1, .long 7), (1, .methodref 8 39), (0, .nameAndType 40 41), (0, u "step"), (0, u "(II)I"), (2, u "law"), (0, u "(JJIII)Z")] 7

def k1m0 : Method := { name := "<init>", desc := "()V", sig := { parameters := [], returnType := none }, accessFlags := 1, code := none }
def k1c1 : Code := { maxStack := 6, maxLocals := 14, code := code, exceptionTable := #[], attributes := #[] }
def k1m1 : Method := { name := "law", desc := "(JJIII)Z", sig := { parameters := [.long, .long, .int, .int, .int], returnType := some .boolean }, accessFlags := 9, code := some k1c1 }
def k1c2 : Code := { maxStack := 2, maxLocals := 1, code := method_3_code, exceptionTable := #[], attributes := #[] }
def k1m2 : Method := { name := "code", desc := "(I)C", sig := { parameters := [.int], returnType := some .char }, accessFlags := 10, code := some k1c2 }
def k1c3 : Code := { maxStack := 4, maxLocals := 3, code := method_4_code, exceptionTable := #[], attributes := #[] }
def k1m3 : Method := { name := "val", desc := "(JI)B", sig := { parameters := [.long, .int], returnType := some .byte }, accessFlags := 10, code := some k1c3 }
def k1c4 : Code := { maxStack := 4, maxLocals := 3, code := method_5_code, exceptionTable := #[], attributes := #[] }
def k1m4 : Method := { name := "slot", desc := "(JI)I", sig := { parameters := [.long, .int], returnType := some .int }, accessFlags := 10, code := some k1c4 }
def k1c5 : Code := { maxStack := 4, maxLocals := 6, code := method_6_code, exceptionTable := #[], attributes := #[] }
def k1m5 : Method := { name := "at", desc := "(I[B[CIII)I", sig := { parameters := [.int, (.array .byte), (.array .char), .int, .int, .int], returnType := some .int }, accessFlags := 10, code := some k1c5 }
def k1c6 : Code := { maxStack := 3, maxLocals := 3, code := method_7_code, exceptionTable := #[], attributes := #[] }
def k1m6 : Method := { name := "step", desc := "(II)I", sig := { parameters := [.int, .int], returnType := some .int }, accessFlags := 10, code := some k1c6 }
/-- com/example/banksum/banksum/iban/IbanRemainderPinLaw -/
def k1 : Class := { plain "com/example/banksum/banksum/iban/IbanRemainderPinLaw" (some 0) with
  accessFlags := 49
  interfaces := #[]
  cf := some (fileOf pool1 8 #[] #[{ accessFlags := 1, nameIndex := 5, descriptorIndex := 6, attributes := #[] }, { accessFlags := 9, nameIndex := 44, descriptorIndex := 45, attributes := #[] }, { accessFlags := 10, nameIndex := 11, descriptorIndex := 12, attributes := #[] }, { accessFlags := 10, nameIndex := 15, descriptorIndex := 16, attributes := #[] }, { accessFlags := 10, nameIndex := 19, descriptorIndex := 20, attributes := #[] }, { accessFlags := 10, nameIndex := 30, descriptorIndex := 31, attributes := #[] }, { accessFlags := 10, nameIndex := 40, descriptorIndex := 41, attributes := #[] }] 49 2 #[] #[])
  fields := #[]
  methods := #[k1m0, k1m1, k1m2, k1m3, k1m4, k1m5, k1m6]
  instanceTypes := #[]
  staticTypes := #[]
  resolved := Array.replicate 53 none
  statics := none }

def pool2 : Array CpInfo := pool [(2, .class_ 4), (1, u "java/lang/Object"), (0, u "<init>"), (0, u "()V"), (0, .class_ 8), (0, u "com/example/banksum/banksum/iban/Iban"), (18, u "INVALID_CHARACTERS"), (0, u "Lcom/example/banksum/banksum/core/Verdict;"), (8, u "INVALID_COUNTRY"), (8, u "INVALID_LENGTH"), (10, u "INVALID_FORMAT"), (6, u "VALID"), (2, u "INVALID_CHECKSUM"), (97, u "ELECTRONIC"), (0, u "[C"), (7, u "remainder"), (3, u "VALUE"), (0, u "[B"), (2, u "([BI[CII)I"), (0, .long 97), (19, u "CHECKED"), (0, u "Ljava/lang/String;"), (1, u "CHARACTERS"), (0, u "COUNTRY"), (0, u "LENGTH"), (0, u "FORMAT"), (0, u "CHECKSUM"), (0, u "MAX_LENGTH"), (0, u "I"), (1, u "BBAN_START"), (1, u "GROUP"), (0, u "REDUCE_EVERY")] 37

def k2m0 : Method := { name := "<init>", desc := "()V", sig := { parameters := [], returnType := none }, accessFlags := 2, code := none }
def k2c1 : Code := { maxStack := 4, maxLocals := 9, code := prog_44_method_10_code, exceptionTable := #[], attributes := #[] }
def k2m1 : Method := { name := "remainder", desc := "([BI[CII)I", sig := { parameters := [(.array .byte), .int, (.array .char), .int, .int], returnType := some .int }, accessFlags := 8, code := some k2c1 }
/-- com/example/banksum/banksum/iban/Iban -/
def k2 : Class := { plain "com/example/banksum/banksum/iban/Iban" (some 0) with
  accessFlags := 49
  interfaces := #[]
  cf := some (fileOf pool2 7 #[] #[{ accessFlags := 2, nameIndex := 5, descriptorIndex := 6, attributes := #[] }, { accessFlags := 8, nameIndex := 174, descriptorIndex := 182, attributes := #[] }] 49 2 #[] #[{ accessFlags := 25, nameIndex := 203, descriptorIndex := 204, attributes := #[] }, { accessFlags := 25, nameIndex := 206, descriptorIndex := 204, attributes := #[] }, { accessFlags := 25, nameIndex := 207, descriptorIndex := 204, attributes := #[] }, { accessFlags := 25, nameIndex := 208, descriptorIndex := 204, attributes := #[] }, { accessFlags := 25, nameIndex := 209, descriptorIndex := 204, attributes := #[] }, { accessFlags := 25, nameIndex := 210, descriptorIndex := 204, attributes := #[] }, { accessFlags := 24, nameIndex := 211, descriptorIndex := 212, attributes := #[] }, { accessFlags := 24, nameIndex := 214, descriptorIndex := 212, attributes := #[] }, { accessFlags := 26, nameIndex := 216, descriptorIndex := 212, attributes := #[] }, { accessFlags := 26, nameIndex := 217, descriptorIndex := 212, attributes := #[] }, { accessFlags := 26, nameIndex := 165, descriptorIndex := 166, attributes := #[] }, { accessFlags := 26, nameIndex := 178, descriptorIndex := 179, attributes := #[] }, { accessFlags := 26, nameIndex := 64, descriptorIndex := 28, attributes := #[] }, { accessFlags := 26, nameIndex := 27, descriptorIndex := 28, attributes := #[] }, { accessFlags := 26, nameIndex := 37, descriptorIndex := 28, attributes := #[] }, { accessFlags := 26, nameIndex := 46, descriptorIndex := 28, attributes := #[] }, { accessFlags := 26, nameIndex := 57, descriptorIndex := 28, attributes := #[] }, { accessFlags := 26, nameIndex := 67, descriptorIndex := 28, attributes := #[] }])
  fields := #[{ name := "CHECKED", type := (.object "java/lang/String"), accessFlags := 25, slot := 0, constantValue := 0 }, { name := "CHARACTERS", type := (.object "java/lang/String"), accessFlags := 25, slot := 1, constantValue := 0 }, { name := "COUNTRY", type := (.object "java/lang/String"), accessFlags := 25, slot := 2, constantValue := 0 }, { name := "LENGTH", type := (.object "java/lang/String"), accessFlags := 25, slot := 3, constantValue := 0 }, { name := "FORMAT", type := (.object "java/lang/String"), accessFlags := 25, slot := 4, constantValue := 0 }, { name := "CHECKSUM", type := (.object "java/lang/String"), accessFlags := 25, slot := 5, constantValue := 0 }, { name := "MAX_LENGTH", type := .int, accessFlags := 24, slot := 6, constantValue := 0 }, { name := "BBAN_START", type := .int, accessFlags := 24, slot := 7, constantValue := 0 }, { name := "GROUP", type := .int, accessFlags := 26, slot := 8, constantValue := 0 }, { name := "REDUCE_EVERY", type := .int, accessFlags := 26, slot := 9, constantValue := 0 }, { name := "ELECTRONIC", type := (.array .char), accessFlags := 26, slot := 10, constantValue := 0 }, { name := "VALUE", type := (.array .byte), accessFlags := 26, slot := 11, constantValue := 0 }, { name := "VALID", type := (.object "com/example/banksum/banksum/core/Verdict"), accessFlags := 26, slot := 12, constantValue := 0 }, { name := "INVALID_CHARACTERS", type := (.object "com/example/banksum/banksum/core/Verdict"), accessFlags := 26, slot := 13, constantValue := 0 }, { name := "INVALID_COUNTRY", type := (.object "com/example/banksum/banksum/core/Verdict"), accessFlags := 26, slot := 14, constantValue := 0 }, { name := "INVALID_LENGTH", type := (.object "com/example/banksum/banksum/core/Verdict"), accessFlags := 26, slot := 15, constantValue := 0 }, { name := "INVALID_FORMAT", type := (.object "com/example/banksum/banksum/core/Verdict"), accessFlags := 26, slot := 16, constantValue := 0 }, { name := "INVALID_CHECKSUM", type := (.object "com/example/banksum/banksum/core/Verdict"), accessFlags := 26, slot := 17, constantValue := 0 }]
  methods := #[k2m0, k2m1]
  instanceTypes := #[]
  staticTypes := #[(.object "java/lang/String"), (.object "java/lang/String"), (.object "java/lang/String"), (.object "java/lang/String"), (.object "java/lang/String"), (.object "java/lang/String"), .int, .int, .int, .int, (.array .char), (.array .byte), (.object "com/example/banksum/banksum/core/Verdict"), (.object "com/example/banksum/banksum/core/Verdict"), (.object "com/example/banksum/banksum/core/Verdict"), (.object "com/example/banksum/banksum/core/Verdict"), (.object "com/example/banksum/banksum/core/Verdict"), (.object "com/example/banksum/banksum/core/Verdict")]
  resolved := Array.replicate 255 none
  statics := none }

def pool3 : Array CpInfo := pool [(1, u "java/lang/Cloneable"), (0, .class_ 1), (0, u "java/lang/Object"), (0, .class_ 3)] 3

/-- java/lang/Cloneable -/
def k3 : Class := { plain "java/lang/Cloneable" (some 0) with
  accessFlags := 1537
  interfaces := #[]
  cf := some (fileOf pool3 2 #[] #[] 1537 4 #[] #[])
  fields := #[]
  methods := #[]
  instanceTypes := #[]
  staticTypes := #[]
  resolved := Array.replicate 8 none
  statics := none }

def pool4 : Array CpInfo := pool [(1, u "java/io/Serializable"), (0, .class_ 1), (0, u "java/lang/Object"), (0, .class_ 3)] 3

/-- java/io/Serializable -/
def k4 : Class := { plain "java/io/Serializable" (some 0) with
  accessFlags := 1537
  interfaces := #[]
  cf := some (fileOf pool4 2 #[] #[] 1537 4 #[] #[])
  fields := #[]
  methods := #[]
  instanceTypes := #[]
  staticTypes := #[]
  resolved := Array.replicate 8 none
  statics := none }

/-- the primitive byte -/
def k5 : Class := { plain "byte" none with kind := .primitive 'B', accessFlags := 0x411 }
/-- [B -/
def k6 : Class := { plain "[B" (some 0) with kind := .array 5 .byte, interfaces := #[3, 4], accessFlags := 1041 }

/-- the primitive char -/
def k7 : Class := { plain "char" none with kind := .primitive 'C', accessFlags := 0x411 }
/-- [C -/
def k8 : Class := { plain "[C" (some 0) with kind := .array 7 .char, interfaces := #[3, 4], accessFlags := 1041 }

/-- the primitive int -/
def k9 : Class := { plain "int" none with kind := .primitive 'I', accessFlags := 0x411 }
/-- [I -/
def k10 : Class := { plain "[I" (some 0) with kind := .array 9 .int, interfaces := #[3, 4], accessFlags := 1041 }

def heap : Heap := #[]
def classes : Array Class := #[k0, k1, k2, k3, k4, k5, k6, k7, k8, k9, k10]
def interned : List (Array UInt16 × Addr) := []
def slotsUsed : Nat := 0
def theMethod : MethodId := ⟨1, 1⟩
def args0 : Array Value := #[.long 5, .long 300, .int 7, .int 3, .int 9]
def aboutOver (below : List Frame) : State where
  vm := { classes := classes, interned := interned.toArray }
  heap := heap
  slotsUsed := slotsUsed
  threads := #[{ frames := .invoking theMethod args0 :: below }]
def below0 : List Frame := [.native { method := ⟨0, 0⟩, args := #[] }]
def about1 : State := aboutOver below0
def p0 : Program := .bare "" "" ""
def e0 : Env := launch0.env 0 0 0
theorem w_frames : about1.frames = Frame.invoking theMethod args0 :: below0 := rfl
set_option maxRecDepth 65536 in
theorem w_args : argsFit about1.vm theMethod args0 = true := by decide +kernel
set_option maxRecDepth 65536 in
theorem w_heap : heapFits about1 = true := by decide +kernel
set_option maxRecDepth 65536 in
theorem w_runnable : about1.curStatus? = some .runnable := by decide +kernel
set_option maxRecDepth 65536 in
theorem w_alone : about1.alone = true := by decide +kernel
set_option maxRecDepth 65536 in
theorem w_named : about1.methodNamed? x = some theMethod := by decide +kernel
set_option maxRecDepth 65536 in
theorem w_hears : about1.hears theMethod below0 = true := by decide +kernel
set_option maxRecDepth 65536 in
theorem w_ripe : about1.ripe theMethod args0 below0 = true := by decide +kernel
theorem w_running : about1.status = .running := rfl
set_option maxRecDepth 65536 in
theorem w_room : about1.hasRoom e0.platform room_1 = true :=
  launch0.hasRoom_least _ room_1 (by decide +kernel) (by decide +kernel) (by decide +kernel) (by decide +kernel) (by decide +kernel) (by decide +kernel)
theorem allAtoms_all (ts : List Jvm.Cond) (a : Array Jvm.Value) (st : Jvm.State) : (allAtoms ts).before a st = ts.all (fun c => c.before a st) := by
  induction ts with
  | nil => rfl
  | cons c t ih =>
    show (Jvm.Cond.and c (allAtoms t)).before a st = _
    rw [Jvm.Cond.before_and, ih, List.all_cons]
def words1 : List Jvm.Cond := Jvm.Cond.code x code maxLocals ret :: tables_1
/-- a 'code' word, met by the world's own term for the bytes: nothing is compared byte by byte -/
theorem code_word {y : MethodName} {bytes : ByteArray} {mx : Nat} {rt : Option FieldType} {a : Array Value} {s : State} {m : MethodId} {meth : Method} {c : Code} (h1 : s.methodNamed? y = some m) (h2 : s.vm.method? m = some meth) (h3 : meth.code = some c) (h4 : c.code = bytes)
    (h5 : (c.maxLocals == mx && c.exceptionTable.isEmpty && decide (c.maxStack ≤ mostOperands) && decide (meth.sig.returnType = rt) && !meth.locks && decide (parseMethodDescriptor y.desc = some meth.sig)) = true) : (Jvm.Cond.code y bytes mx rt).before a s = true := by
  simp only [Bool.and_eq_true, beq_iff_eq, Bool.not_eq_true', decide_eq_true_eq] at h5
  obtain ⟨⟨⟨⟨⟨g1, g2⟩, g3⟩, g4⟩, g5⟩, g6⟩ := h5
  simp [Cond.before, Cond.holds, Cond.value, h1, h2, h3, h4, g1, g2, g3, g4, g5, g6]
def isCode : Jvm.Cond → Bool
  | .code _ _ _ _ => true
  | _ => false
theorem all_split {L : List Jvm.Cond} {P : Jvm.Cond → Bool} (h1 : L.all (fun c => isCode c || P c) = true) (h2 : ∀ c ∈ L.filter isCode, P c = true) : L.all P = true := by
  refine List.all_eq_true.mpr fun c hc => ?_
  have h := List.all_eq_true.mp h1 c hc
  rcases Bool.eq_false_or_eq_true (isCode c) with hi | hi
  · exact h2 c (List.mem_filter.mpr ⟨hc, hi⟩)
  · simpa [hi] using h
set_option maxRecDepth 65536 in
theorem w_c0 : (Jvm.Cond.code x code maxLocals ret).before args0 about1 = true := code_word (m := ⟨1, 1⟩) (meth := k1m1) (c := k1c1) (by decide +kernel) rfl rfl rfl (by decide +kernel)
set_option maxRecDepth 65536 in
theorem w_c1 : (Jvm.Cond.code ({ cls := "com/example/banksum/banksum/iban/IbanRemainderPinLaw", name := "code", desc := "(I)C" } : Jvm.MethodName) method_3_code (1 : Nat) (Option.some Jvm.ClassFile.FieldType.char)).before args0 about1 = true := code_word (m := ⟨1, 2⟩) (meth := k1m2) (c := k1c2) (by decide +kernel) rfl rfl rfl (by decide +kernel)
set_option maxRecDepth 65536 in
theorem w_c2 : (Jvm.Cond.code ({ cls := "com/example/banksum/banksum/iban/IbanRemainderPinLaw", name := "val", desc := "(JI)B" } : Jvm.MethodName) method_4_code (3 : Nat) (Option.some Jvm.ClassFile.FieldType.byte)).before args0 about1 = true := code_word (m := ⟨1, 3⟩) (meth := k1m3) (c := k1c3) (by decide +kernel) rfl rfl rfl (by decide +kernel)
set_option maxRecDepth 65536 in
theorem w_c3 : (Jvm.Cond.code ({ cls := "com/example/banksum/banksum/iban/IbanRemainderPinLaw", name := "slot", desc := "(JI)I" } : Jvm.MethodName) method_5_code (3 : Nat) (Option.some Jvm.ClassFile.FieldType.int)).before args0 about1 = true := code_word (m := ⟨1, 4⟩) (meth := k1m4) (c := k1c4) (by decide +kernel) rfl rfl rfl (by decide +kernel)
set_option maxRecDepth 65536 in
theorem w_c4 : (Jvm.Cond.code ({ cls := "com/example/banksum/banksum/iban/Iban", name := "remainder", desc := "([BI[CII)I" } : Jvm.MethodName) prog_44_method_10_code (9 : Nat) (Option.some Jvm.ClassFile.FieldType.int)).before args0 about1 = true := code_word (m := ⟨2, 1⟩) (meth := k2m1) (c := k2c1) (by decide +kernel) rfl rfl rfl (by decide +kernel)
set_option maxRecDepth 65536 in
theorem w_c5 : (Jvm.Cond.code ({ cls := "com/example/banksum/banksum/iban/IbanRemainderPinLaw", name := "at", desc := "(I[B[CIII)I" } : Jvm.MethodName) method_6_code (6 : Nat) (Option.some Jvm.ClassFile.FieldType.int)).before args0 about1 = true := code_word (m := ⟨1, 5⟩) (meth := k1m5) (c := k1c5) (by decide +kernel) rfl rfl rfl (by decide +kernel)
set_option maxRecDepth 65536 in
theorem w_c6 : (Jvm.Cond.code ({ cls := "com/example/banksum/banksum/iban/IbanRemainderPinLaw", name := "step", desc := "(II)I" } : Jvm.MethodName) method_7_code (3 : Nat) (Option.some Jvm.ClassFile.FieldType.int)).before args0 about1 = true := code_word (m := ⟨1, 6⟩) (meth := k1m6) (c := k1c6) (by decide +kernel) rfl rfl rfl (by decide +kernel)
def codes1 : List Jvm.Cond := [Jvm.Cond.code x code maxLocals ret, Jvm.Cond.code ({ cls := "com/example/banksum/banksum/iban/IbanRemainderPinLaw", name := "code", desc := "(I)C" } : Jvm.MethodName) method_3_code (1 : Nat) (Option.some Jvm.ClassFile.FieldType.char), Jvm.Cond.code ({ cls := "com/example/banksum/banksum/iban/IbanRemainderPinLaw", name := "val", desc := "(JI)B" } : Jvm.MethodName) method_4_code (3 : Nat) (Option.some Jvm.ClassFile.FieldType.byte), Jvm.Cond.code ({ cls := "com/example/banksum/banksum/iban/IbanRemainderPinLaw", name := "slot", desc := "(JI)I" } : Jvm.MethodName) method_5_code (3 : Nat) (Option.some Jvm.ClassFile.FieldType.int), Jvm.Cond.code ({ cls := "com/example/banksum/banksum/iban/Iban", name := "remainder", desc := "([BI[CII)I" } : Jvm.MethodName) prog_44_method_10_code (9 : Nat) (Option.some Jvm.ClassFile.FieldType.int), Jvm.Cond.code ({ cls := "com/example/banksum/banksum/iban/IbanRemainderPinLaw", name := "at", desc := "(I[B[CIII)I" } : Jvm.MethodName) method_6_code (6 : Nat) (Option.some Jvm.ClassFile.FieldType.int), Jvm.Cond.code ({ cls := "com/example/banksum/banksum/iban/IbanRemainderPinLaw", name := "step", desc := "(II)I" } : Jvm.MethodName) method_7_code (3 : Nat) (Option.some Jvm.ClassFile.FieldType.int)]
set_option maxRecDepth 65536 in
theorem codes_eq : words1.filter isCode = codes1 := rfl
theorem w_codes : ∀ c ∈ words1.filter isCode, c.before args0 about1 = true := by
  rw [codes_eq]
  intro c hc
  simp only [codes1, List.mem_cons, List.not_mem_nil, or_false] at hc
  rcases hc with rfl | rfl | rfl | rfl | rfl | rfl | rfl
  · exact w_c0
  · exact w_c1
  · exact w_c2
  · exact w_c3
  · exact w_c4
  · exact w_c5
  · exact w_c6
set_option maxRecDepth 65536 in
theorem w_t1 : (words1.take 24).all (fun c => isCode c || c.before args0 about1) = true := by decide +kernel
set_option maxRecDepth 65536 in
theorem w_t2 : (words1.drop 24).all (fun c => isCode c || c.before args0 about1) = true := by decide +kernel
theorem w_tables : (allAtoms (Jvm.Cond.code x code maxLocals ret :: tables_1)).before args0 about1 = true := by
  rw [allAtoms_all]
  show words1.all (fun c => c.before args0 about1) = true
  refine all_split ?_ w_codes
  rw [← List.take_append_drop 24 words1, List.all_append, w_t1, w_t2]
  rfl
set_option maxRecDepth 65536 in
theorem w_case : (Jvm.Cond.and given_1 narrow_1).before args0 about1 = true := by decide +kernel
theorem w_applies : (headSpec (Jvm.Cond.code x code maxLocals ret :: tables_1) room_1).applies x e0.platform about1 = true :=
  (Spec.applies_iff w_frames).mpr ⟨w_running, w_runnable, w_alone, w_named, w_hears, w_ripe, w_room, w_tables⟩
theorem atStart : AtStart classFile x code maxLocals ret World_1 tables_1 room_1 Calls_1 rest_1 Pre_1 launch0 p0 e0 about1 theMethod args0 below0 :=
  ⟨lists_1, trivial, launch0.admits_env _ _ _, launch0.least_env, fairChoices_fair.cas, fairChoices_fair.clock, w_frames, w_args, w_heap, w_applies, trivial, trivial, w_case⟩
end start1
theorem witness_1 : WitnessClaimed_1 := ⟨start1.p0, start1.e0, start1.about1, start1.theMethod, start1.args0, start1.below0, start1.atStart⟩
end Jvm.Pilot.@@N@@
