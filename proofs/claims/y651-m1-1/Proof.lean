import JvmDerived
import JvmDerived.Pilot.@@N@@Statement
import JvmDerived.Pilot.@@N@@Code
set_option linter.unusedVariables false
set_option linter.unusedSimpArgs false
namespace Jvm.Pilot.@@N@@
open Jvm Jvm.ClassFile Sem Op Lib Jvm.Free Jvm.Stand Jvm.LawKit Jvm.RoadKit Bundle Jvm.Pilot.@@N@@.Jvm.D
/-! own_Out: from the frame g over T the run comes to a return of which Q speaks. A walk is a proof of own_Out from its entry, backwards step by step; so it may fork. -/
section OwnKit
variable {p : Program} {l : Launch} {e : Env} {R : Room} {s : State} {m : MethodId} {args : Array Value} {below : List Frame} {meth : Method} {c : Code} {T : State} {locs : List Loc} {cells slots kc ks : Nat} {Z : State} {a0 : Array Value} {h h' h0 : Heap} {Q : Option Value → Heap → List Loc → Prop} {g : JFrame}
def own_Out (p : Program) (e : Env) (below : List Frame) (s : State) (Q : Option Value → Heap → List Loc → Prop) (kc ks : Nat) (T : State) (g : JFrame) : Prop :=
  ∃ U o, Steps p.tables e below (T.setTop g) U ∧ U.status = .running ∧ Ended U below o ∧ ∃ v L, o = .returned v ∧ Q v U.heap L ∧ FrameEnd s o U L kc ks
theorem own_st (T' : State) (g' : JFrame) (st : ∀ t, Steps p.tables e below (T'.setTop g') t → Steps p.tables e below (T.setTop g) t) (k : own_Out p e below s Q kc ks T' g') : own_Out p e below s Q kc ks T g := by
  obtain ⟨U, o, h1, h2⟩ := k; exact ⟨U, o, st _ h1, h2⟩
theorem own_tr (T' : State) (g' : JFrame) (st : Steps p.tables e below (T.setTop g) (T'.setTop g')) (k : own_Out p e below s Q kc ks T' g') : own_Out p e below s Q kc ks T g := by
  obtain ⟨U, o, h1, h2⟩ := k; exact ⟨U, o, st.trans h1, h2⟩
theorem own_ret (X : Stand p l e R s m args below meth c T locs cells slots) (hx : p.tables.exec = Jvm.exec) (hlk : meth.locks = false) {pc : Nat} {Ls : Array Slot} {w : Value} {t : FieldType} {i : Instr} {rest : List Value} (hret : meth.sig.returnType = some t) (hn : narrow t w = w)
    (hi : (i = .ireturn ∧ (t = .int ∨ t = .boolean ∨ t = .byte ∨ t = .char ∨ t = .short) ∧ ∃ z, w = .int z) ∨ (i = .lreturn ∧ t = .long ∧ ∃ z, w = .long z) ∨ (i = .dreturn ∧ t = .double ∧ ∃ z, w = .double z) ∨ (i = .freturn ∧ t = .float ∧ ∃ z, w = .float z) ∨ (i = .areturn ∧ t.isReference = true ∧ w.isRef = true))
    (hd : decode c.code pc = .ok (i, 1)) (hc : cells ≤ kc) (hs : slots ≤ ks) (hq : Q (some w) T.heap locs) : own_Out p e below s Q kc ks T (mkF m pc Ls (w :: rest)) := by
  obtain ⟨fs, hr, hrun, hended, hW, hsame⟩ := X.leave (v := some w) (fun h => by rw [hret] at h; cases h) hlk
  exact ⟨_, _, retOut X hx hret hn hi hd hr, hrun, hended, _, _, rfl, hq, ⟨_, rfl⟩, hW, hsame.mono hc hs⟩
theorem own_retI (X : Stand p l e R s m args below meth c T locs cells slots) (hx : p.tables.exec = Jvm.exec) (hlk : meth.locks = false) {pc : Nat} {Ls : Array Slot} {z : Int32} {rest : List Value} (hret : meth.sig.returnType = some .int)
    (hd : decode c.code pc = .ok (.ireturn, 1)) (hc : cells ≤ kc) (hs : slots ≤ ks) (hq : Q (some (.int z)) T.heap locs) : own_Out p e below s Q kc ks T (mkF m pc Ls (.int z :: rest)) :=
  own_ret X hx hlk hret rfl (Or.inl ⟨rfl, Or.inl rfl, z, rfl⟩) hd hc hs hq
theorem own_retJ (X : Stand p l e R s m args below meth c T locs cells slots) (hx : p.tables.exec = Jvm.exec) (hlk : meth.locks = false) {pc : Nat} {Ls : Array Slot} {z : Int64} {rest : List Value} (hret : meth.sig.returnType = some .long)
    (hd : decode c.code pc = .ok (.lreturn, 1)) (hc : cells ≤ kc) (hs : slots ≤ ks) (hq : Q (some (.long z)) T.heap locs) : own_Out p e below s Q kc ks T (mkF m pc Ls (.long z :: rest)) :=
  own_ret X hx hlk hret rfl (Or.inr (Or.inl ⟨rfl, rfl, z, rfl⟩)) hd hc hs hq
theorem own_nref {t : FieldType} {w : Value} (ht : t.isReference = true) (hw : w.isRef = true) : narrow t w = w := by
  cases t <;> first | (cases ht; done) | (cases w <;> first | rfl | (cases hw; done))
theorem own_retA (X : Stand p l e R s m args below meth c T locs cells slots) (hx : p.tables.exec = Jvm.exec) (hlk : meth.locks = false) {pc : Nat} {Ls : Array Slot} {w : Value} {t : FieldType} {rest : List Value} (hret : meth.sig.returnType = some t) (ht : t.isReference = true) (hw : w.isRef = true)
    (hd : decode c.code pc = .ok (.areturn, 1)) (hc : cells ≤ kc) (hs : slots ≤ ks) (hq : Q (some w) T.heap locs) : own_Out p e below s Q kc ks T (mkF m pc Ls (w :: rest)) :=
  own_ret X hx hlk hret (own_nref ht hw) (Or.inr (Or.inr (Or.inr (Or.inr ⟨rfl, ht, hw⟩)))) hd hc hs hq
theorem own_retN (X : Stand p l e R s m args below meth c T locs cells slots) (hx : p.tables.exec = Jvm.exec) (hlk : meth.locks = false) {pc : Nat} {Ls : Array Slot} {z : Int32} {t : FieldType} {rest : List Value} (hret : meth.sig.returnType = some t) (ht : t = .boolean ∨ t = .byte ∨ t = .char ∨ t = .short)
    (hd : decode c.code pc = .ok (.ireturn, 1)) (hc : cells ≤ kc) (hs : slots ≤ ks) (hq : Q (some (.int (nar t z))) T.heap locs) : own_Out p e below s Q kc ks T (mkF m pc Ls (.int z :: rest)) := by
  obtain ⟨fs, hr, hrun, hended, hW, hsame⟩ := X.leave (v := some (.int (nar t z))) (fun h => by rw [hret] at h; cases h) hlk
  exact ⟨_, _, retN X hx hret ht hd hr, hrun, hended, _, _, rfl, hq, ⟨_, rfl⟩, hW, hsame.mono hc hs⟩
theorem own_ret0 (X : Stand p l e R s m args below meth c T locs cells slots) (hx : p.tables.exec = Jvm.exec) (hlk : meth.locks = false) {pc : Nat} {Ls : Array Slot} (hret : meth.sig.returnType = none)
    (hd : decode c.code pc = .ok (.return_, 1)) (hc : cells ≤ kc) (hs : slots ≤ ks) (hq : Q none T.heap locs) : own_Out p e below s Q kc ks T (mkF m pc Ls []) := by
  obtain ⟨fs, hr, hrun, hended, hW, hsame⟩ := X.leave (v := none) (fun _ => rfl) hlk
  exact ⟨_, _, X.returnOut hx hret hd hr, hrun, hended, _, _, rfl, hq, ⟨_, rfl⟩, hW, hsame.mono hc hs⟩
/-- a method's contract at the arguments as' over the heap h0 -/
def own_Met (l : Launch) (Z : State) (y : MethodName) (bytes : ByteArray) (maxL : Nat) (ret : Option FieldType) (rm : Room) (as' : Array Value) (h0 : Heap) (Q : Option Value → Heap → List Loc → Prop) : Prop :=
  ∀ ws : List Jvm.Cond, MetFree l y (head1 (Jvm.Cond.code y bytes maxL ret :: ws) rm) (fun a U => a = as' ∧ Z.Warmed39 U.vm ∧ U.heap = h0) (fun _ _ _ _ _ => True) (fun _ U o U' => ∃ v L, o = .returned v ∧ Q v U'.heap L ∧ FrameEnd U o U' L rm.cells rm.slots)
theorem own_body {y : MethodName} {bytes : ByteArray} {maxL : Nat} {ret : Option FieldType} {rm : Room} {as' : Array Value} (Ls : Array Slot) (hp : plainFor y = true) (hef : ∀ m, entryFrame m as' maxL = mkF m 0 Ls [])
    (hbody : ∀ (p : Program) (e : Env) (s : State) (m : MethodId) (below : List Frame) (meth : Method) (c : Code) (s₁ : State), Stand p l e rm s m as' below meth c s₁ [] 0 0 → p.tables.exec = Jvm.exec → c.code = bytes → c.maxLocals = maxL → meth.sig.returnType = ret → meth.locks = false → Z.Warmed39 s.vm → s.vm.findClass y.cls = some m.cls → meth.name = y.name → s₁.heap = h0 →
      own_Out p e below s Q rm.cells rm.slots s₁ (mkF m 0 Ls [])) : own_Met l Z y bytes maxL ret rm as' h0 Q := by
  intro ws
  refine MetFree.of_bodySF hp hisR ?_
  intro p e s m args below meth c s₁ Bd hml0 hP hK
  obtain ⟨rfl, hZ, hh⟩ := hP
  have X0 : Stand p l e rm s m args below meth c s₁ [] 0 0 := Stand.of_body Bd
  have e0 : s₁.heap = h0 := by rw [← hh, Bd.state]; rfl
  obtain ⟨U, o, h1, h2⟩ := hbody p e s m below meth c s₁ X0 Bd.exec Bd.bytes hml0 Bd.returns Bd.notSynchronized hZ (findClass_of_methodNamed Bd.named) (name_of_methodNamed Bd.named Bd.method).1 e0
  exact ⟨U, o, castTop (hef m) h1, h2⟩
theorem own_callS (X : Stand p l e R s m args below meth c T locs cells slots) (hx : p.tables.exec = Jvm.exec) (hZ : Z.Warmed39 s.vm) {own : String} {index : Nat} {y : MethodName} {bytes : ByteArray} {maxL : Nat} {ret : Option FieldType} (hown : s.vm.findClass own = some m.cls)
    (w1 : (Cond.methodLink own index y).before a0 Z = true) (w2 : (Cond.static y).before a0 Z = true) (w3 : (Cond.initialized y.cls).before a0 Z = true) (w4 : (Cond.code y bytes maxL ret).before a0 Z = true) (hy : y.cls ≠ "java/lang/invoke/MethodHandle" ∧ y.cls ≠ "java/lang/invoke/VarHandle")
    {rm : Room} (argsL rest : List Value) {Qc : Option Value → Heap → List Loc → Prop} (M : own_Met l Z y bytes maxL ret rm argsL.toArray h Qc) (W : Nat) (hf : rm.frames + 1 ≤ R.frames) (hl : W + (maxL + 11) + rm.locals ≤ R.locals) (eT : T.heap = h)
    {pc : Nat} {Ls : Array Slot} {st : List Value} (hsize : Ls.size = c.maxLocals) (hlen : ∀ sig, parseMethodDescriptor y.desc = some sig → argsL.length = sig.parameters.length) (hstack : st = argsL.reverse ++ rest) (hW : (rest.map fun v => v.category).sum ≤ W)
    (hd : decode c.code pc = .ok (.invokestatic index, 3)) (hc : cells + rm.cells ≤ R.cells) (hs : slots + rm.slots ≤ R.slots)
    (k : ∀ v T' L, Stand p l e R s m args below meth c T' (locs ++ L) (cells + rm.cells) (slots + rm.slots) → Qc v T'.heap L → own_Out p e below s Q kc ks T' (mkF m (pc + 3) Ls (v.toList ++ rest))) : own_Out p e below s Q kc ks T (mkF m pc Ls st) := by
  obtain ⟨v, vm1, ⟨T', L', c', n'⟩, -, X', ⟨L, hQ, r1, r2, r3⟩, stp⟩ := Jvm.LawKit.callS X hx (y := y) (bytes := bytes) (maxL := maxL) (ret := ret) hown (mvT hZ w1) (mvT hZ w2) (mvT hZ w3) (mvT hZ w4) hy (backOf (W := W) (M []) hZ w4 w3 hf hl) (g := mkF m pc Ls st) rfl hsize (argsL := argsL) (rest := rest) hlen hstack (by show 2 * 0 + _ ≤ _; omega) hd (fun _ _ => ⟨rfl, eT, hc, hs⟩)
  dsimp only [Pt.U, Pt.locs, Pt.cells, Pt.slots] at X' r1 r2 r3 stp hQ
  subst r1 r2 r3
  exact own_st _ _ stp (k v T' L X' hQ)
theorem own_callC (X : Stand p l e R s m args below meth c T locs cells slots) (hx : p.tables.exec = Jvm.exec) (hZ : Z.Warmed39 s.vm) {own : String} {index : Nat} {y : MethodName} {bytes : ByteArray} {maxL : Nat} (hy1 : y.name = "<init>") (hown : s.vm.findClass own = some m.cls)
    (w1 : (Cond.methodLink own index y).before a0 Z = true) (w2 : (Cond.instanceMethod y).before a0 Z = true) (w3 : (Cond.initialized y.cls).before a0 Z = true) (w4 : (Cond.code y bytes maxL none).before a0 Z = true) (hy : y.cls ≠ "java/lang/invoke/MethodHandle" ∧ y.cls ≠ "java/lang/invoke/VarHandle")
    {rm : Room} (a : Addr) (argsL rest : List Value) {Qc : Option Value → Heap → List Loc → Prop} (M : own_Met l Z y bytes maxL none rm (.ref a :: argsL).toArray h Qc) (W : Nat) (hf : rm.frames + 1 ≤ R.frames) (hl : W + (maxL + 11) + rm.locals ≤ R.locals) (eT : T.heap = h)
    {pc : Nat} {Ls : Array Slot} {st : List Value} (hsize : Ls.size = c.maxLocals) (hlen : ∀ sig, parseMethodDescriptor y.desc = some sig → argsL.length = sig.parameters.length) (hstack : st = argsL.reverse ++ .ref a :: rest) (hW : (rest.map fun v => v.category).sum ≤ W)
    (hd : decode c.code pc = .ok (.invokespecial index, 3)) (hc : cells + rm.cells ≤ R.cells) (hs : slots + rm.slots ≤ R.slots)
    (k : ∀ v T' L, Stand p l e R s m args below meth c T' (locs ++ L) (cells + rm.cells) (slots + rm.slots) → Qc v T'.heap L → own_Out p e below s Q kc ks T' (mkF m (pc + 3) Ls (v.toList ++ rest))) : own_Out p e below s Q kc ks T (mkF m pc Ls st) := by
  obtain ⟨v, vm1, ⟨T', L', c', n'⟩, -, X', ⟨L, hQ, r1, r2, r3⟩, stp⟩ := X.specialBack hx (y := y) (bytes := bytes) (maxL := maxL) hy1 hown (mvT hZ w1) (mvT hZ w2) (mvT hZ w4) hy (backOf (W := W) (M []) hZ w4 w3 hf hl) (g := mkF m pc Ls st) rfl hsize (Steps.refl _) (a := a) (argsL := argsL) (rest := rest) hlen hstack (by show 2 * 0 + _ ≤ _; omega) hd (fun _ _ => ⟨rfl, eT, hc, hs⟩)
  dsimp only [Pt.U, Pt.locs, Pt.cells, Pt.slots] at X' r1 r2 r3 stp hQ
  subst r1 r2 r3
  exact own_tr _ _ stp (k v T' L X' hQ)
theorem own_callV (X : Stand p l e R s m args below meth c T locs cells slots) (hx : p.tables.exec = Jvm.exec) (hZ : Z.Warmed39 s.vm) {own C : String} {index : Nat} {y z : MethodName} {bytes : ByteArray} {maxL : Nat} {ret : Option FieldType} (hown : s.vm.findClass own = some m.cls)
    (w1 : (Cond.methodLink own index y).before a0 Z = true) (w2 : (Cond.declares y).before a0 Z = true) (hnf : NotFace s y) (w5 : (Cond.selects C y z).before a0 Z = true) (w6 : (Cond.instanceMethod z).before a0 Z = true) (w3 : (Cond.initialized z.cls).before a0 Z = true) (w4 : (Cond.code z bytes maxL ret).before a0 Z = true) (hy : y.cls ≠ "java/lang/invoke/MethodHandle" ∧ y.cls ≠ "java/lang/invoke/VarHandle")
    {rm : Room} (a : Addr) (argsL rest : List Value) {Qc : Option Value → Heap → List Loc → Prop} (E : Exa Z h a C) (M : own_Met l Z z bytes maxL ret rm (.ref a :: argsL).toArray h Qc) (W : Nat) (hf : rm.frames + 1 ≤ R.frames) (hl : W + (maxL + 11) + rm.locals ≤ R.locals) (eT : T.heap = h)
    {pc : Nat} {Ls : Array Slot} {st : List Value} (hsize : Ls.size = c.maxLocals) (hlen : ∀ sig, parseMethodDescriptor y.desc = some sig → argsL.length = sig.parameters.length) (hstack : st = argsL.reverse ++ .ref a :: rest) (hW : (rest.map fun v => v.category).sum ≤ W)
    (hd : decode c.code pc = .ok (.invokevirtual index, 3)) (hc : cells + rm.cells ≤ R.cells) (hs : slots + rm.slots ≤ R.slots)
    (k : ∀ v T' L, Stand p l e R s m args below meth c T' (locs ++ L) (cells + rm.cells) (slots + rm.slots) → Qc v T'.heap L → own_Out p e below s Q kc ks T' (mkF m (pc + 3) Ls (v.toList ++ rest))) : own_Out p e below s Q kc ks T (mkF m pc Ls st) := by
  obtain ⟨cq, kq, qa, qb, qc⟩ := isOf hZ eT E
  obtain ⟨v, vm1, ⟨T', L', c', n'⟩, -, X', ⟨L, hQ, r1, r2, r3⟩, stp⟩ := X.virtualBack hx (y := y) (z := z) hown (mvT hZ w1) (mvT hZ w2) hnf (mvT hZ w5) (mvT hZ w6) hy (backOf (W := W) (M []) hZ w4 w3 hf hl) qa qc (g := mkF m pc Ls st) rfl hsize (Steps.refl _) (argsL := argsL) (rest := rest) hlen hstack (by show 2 * 0 + _ ≤ _; omega) hd (fun _ _ => ⟨rfl, eT, hc, hs⟩)
  dsimp only [Pt.U, Pt.locs, Pt.cells, Pt.slots] at X' r1 r2 r3 stp hQ
  subst r1 r2 r3
  exact own_tr _ _ stp (k v T' L X' hQ)
theorem own_callI (X : Stand p l e R s m args below meth c T locs cells slots) (hx : p.tables.exec = Jvm.exec) (hZ : Z.Warmed39 s.vm) {own C : String} {index count : Nat} {xi y : MethodName} {bytes : ByteArray} {maxL : Nat} {ret : Option FieldType} (hown : s.vm.findClass own = some m.cls)
    (w1 : (Cond.methodLink own index xi).before args s = true) (w2 : (Cond.declares xi).before args s = true) (w7 : (Cond.interfaceMethod xi.cls xi.cls xi.name xi.desc).before args s = true) (w5 : (Cond.selects C xi y).before args s = true) (w6 : (Cond.instanceMethod y).before args s = true) (w8 : (Cond.publicMethod y).before args s = true) (w9 : (Cond.unhidden C xi.name xi.desc).before args s = true) (w10 : (Cond.castable C xi.cls).before args s = true) (w3 : (Cond.initialized y.cls).before a0 Z = true) (w4 : (Cond.code y bytes maxL ret).before a0 Z = true) (hy : xi.cls ≠ "java/lang/invoke/MethodHandle" ∧ xi.cls ≠ "java/lang/invoke/VarHandle")
    {rm : Room} (a : Addr) (argsL rest : List Value) {Qc : Option Value → Heap → List Loc → Prop} (E : Exa Z h a C) (M : own_Met l Z y bytes maxL ret rm (.ref a :: argsL).toArray h Qc) (W : Nat) (hf : rm.frames + 1 ≤ R.frames) (hl : W + (maxL + 11) + rm.locals ≤ R.locals) (eT : T.heap = h)
    {pc : Nat} {Ls : Array Slot} {st : List Value} (hsize : Ls.size = c.maxLocals) (hlen : ∀ sig, parseMethodDescriptor xi.desc = some sig → argsL.length = sig.parameters.length) (hstack : st = argsL.reverse ++ .ref a :: rest) (hW : (rest.map fun v => v.category).sum ≤ W)
    (hd : decode c.code pc = .ok (.invokeinterface index count, 5)) (hc : cells + rm.cells ≤ R.cells) (hs : slots + rm.slots ≤ R.slots)
    (k : ∀ v T' L, Stand p l e R s m args below meth c T' (locs ++ L) (cells + rm.cells) (slots + rm.slots) → Qc v T'.heap L → own_Out p e below s Q kc ks T' (mkF m (pc + 5) Ls (v.toList ++ rest))) : own_Out p e below s Q kc ks T (mkF m pc Ls st) := by
  obtain ⟨cq, kq, qa, qb, qc⟩ := isOf hZ eT E
  obtain ⟨v, vm1, ⟨T', L', c', n'⟩, -, X', ⟨L, hQ, r1, r2, r3⟩, stp⟩ := X.interfaceBack hx (xi := xi) (y := y) hown w1 w2 w7 w5 w6 w8 w9 w10 hy (backOf (W := W) (M []) hZ w4 w3 hf hl) qa qb qc (g := mkF m pc Ls st) rfl hsize (Steps.refl _) (argsL := argsL) (rest := rest) hlen hstack (by show 2 * 0 + _ ≤ _; omega) hd (fun _ _ => ⟨rfl, eT, hc, hs⟩)
  dsimp only [Pt.U, Pt.locs, Pt.cells, Pt.slots] at X' r1 r2 r3 stp hQ
  subst r1 r2 r3
  exact own_tr _ _ stp (k v T' L X' hQ)
theorem own_callP (X : Stand p l e R s m args below meth c T locs cells slots) (hx : p.tables.exec = Jvm.exec) (hZ : Z.Warmed39 s.vm) {own : String} {index : Nat} {y : MethodName} {bytes : ByteArray} {maxL : Nat} {ret : Option FieldType} (hown : s.vm.findClass own = some m.cls)
    (w1 : (Cond.methodLink own index y).before a0 Z = true) (w2 : (Cond.instanceMethod y).before a0 Z = true) (w5 : (Cond.selects y.cls y y).before a0 Z = true) (w6 : (Cond.privateMethod y).before a0 Z = true) (w3 : (Cond.initialized y.cls).before a0 Z = true) (w4 : (Cond.code y bytes maxL ret).before a0 Z = true) (hy : y.cls ≠ "java/lang/invoke/MethodHandle" ∧ y.cls ≠ "java/lang/invoke/VarHandle")
    {rm : Room} (a : Addr) (argsL rest : List Value) {C : String} {Qc : Option Value → Heap → List Loc → Prop} (E : Exa Z h a C) (M : own_Met l Z y bytes maxL ret rm (.ref a :: argsL).toArray h Qc) (W : Nat) (hf : rm.frames + 1 ≤ R.frames) (hl : W + (maxL + 11) + rm.locals ≤ R.locals) (eT : T.heap = h)
    {pc : Nat} {Ls : Array Slot} {st : List Value} (hsize : Ls.size = c.maxLocals) (hlen : ∀ sig, parseMethodDescriptor y.desc = some sig → argsL.length = sig.parameters.length) (hstack : st = argsL.reverse ++ .ref a :: rest) (hW : (rest.map fun v => v.category).sum ≤ W)
    (hd : decode c.code pc = .ok (.invokevirtual index, 3)) (hc : cells + rm.cells ≤ R.cells) (hs : slots + rm.slots ≤ R.slots)
    (k : ∀ v T' L, Stand p l e R s m args below meth c T' (locs ++ L) (cells + rm.cells) (slots + rm.slots) → Qc v T'.heap L → own_Out p e below s Q kc ks T' (mkF m (pc + 3) Ls (v.toList ++ rest))) : own_Out p e below s Q kc ks T (mkF m pc Ls st) := by
  obtain ⟨cq, qa, qb⟩ := E.cell
  obtain ⟨v, vm1, ⟨T', L', c', n'⟩, -, X', ⟨L, hQ, r1, r2, r3⟩, stp⟩ := X.privateBack hx (y := y) (bytes := bytes) (maxL := maxL) (ret := ret) hown (mvT hZ w1) (mvT hZ w2) (mvT hZ w5) (Cond.privateMethod_at (mvP hZ w6 (args := #[]))) (mvT hZ w4) hy (backOf (W := W) (M []) hZ w4 w3 hf hl) (g := mkF m pc Ls st) rfl hsize (Steps.refl _) (a := a) (by rw [eT]; exact qa) qb (argsL := argsL) (rest := rest) hlen hstack (by show 2 * 0 + _ ≤ _; omega) hd (fun _ _ => ⟨rfl, eT, hc, hs⟩)
  dsimp only [Pt.U, Pt.locs, Pt.cells, Pt.slots] at X' r1 r2 r3 stp hQ
  subst r1 r2 r3
  exact own_tr _ _ stp (k v T' L X' hQ)
/-- an array by its values: n places, place i holds f i -/
def own_A (Z : State) (h : Heap) (a : Addr) (k : ClassId) (ty : FieldType) (n : Nat) (f : Nat → Value) : Prop := ∃ cl : Cell, Arr Z h a cl ty ∧ cl.cls = k ∧ cl.slots.size = n ∧ n < 2 ^ 31 ∧ ∀ i, i < n → cl.slots[i]? = some (f i)
variable {a b : Addr} {k : ClassId} {ty : FieldType} {n : Nat} {f f' : Nat → Value} {sl : Nat} {v : Value} {ws : List Addr}
theorem own_A.lt (F : own_A Z h a k ty n f) : a < h.size := by obtain ⟨c, A, -⟩ := F; exact A.lt
theorem own_A.ext (F : own_A Z h a k ty n f) (E : Ext h h') : own_A Z h' a k ty n f := by obtain ⟨c, A, r⟩ := F; exact ⟨c, A.ext E, r⟩
theorem own_A.other (F : own_A Z h b k ty n f) (W : Wr h h' a sl v) (q : b ≠ a) : own_A Z h' b k ty n f := by obtain ⟨c, A, r⟩ := F; exact ⟨c, A.other W q, r⟩
theorem own_A.keep (F : own_A Z h a k ty n f) (K : Keep h h' ws) (q : a ∉ ws) : own_A Z h' a k ty n f := by obtain ⟨c, A, r⟩ := F; exact ⟨c, ⟨K.2.1 a c A.1 q, A.2⟩, r⟩
theorem own_A.cong (F : own_A Z h a k ty n f) (q : ∀ i, i < n → f i = f' i) : own_A Z h a k ty n f' := by obtain ⟨c, A, r1, r2, r3, r4⟩ := F; exact ⟨c, A, r1, r2, r3, fun i hi => by rw [r4 i hi, q i hi]⟩
theorem own_A.new {z : Int32} (A : Arr Z h a (newA k ty z) ty) (q : ¬ z < 0) : own_A Z h a k ty z.toNatClampNeg (fun _ => defaultValue ty) := ⟨_, A, rfl, sz_new _ _ _, (back32 q).2, fun i hi => by simp [newA, hi]⟩
theorem own_A.newL {z : Int32} (A : Arr Z h a (newA k ty z) ty) (q : ¬ z < 0) (n : Nat) (hn : z.toNatClampNeg = n) (d : Value) (hd : defaultValue ty = d) : own_A Z h a k ty n (fun i => (List.replicate n d).getD i d) := by
  subst hn hd
  refine (own_A.new A q).cong fun i hi => ?_
  simp [List.getD_eq_getElem?_getD, List.getElem?_replicate, hi]
theorem own_jn {j : Int32} {i : Nat} (q : j.toInt = (i : Int)) : j.toNatClampNeg = i := by simp only [Int32.toNatClampNeg]; omega
theorem own_in {j : Int32} {i n : Nat} {cl : Cell} (q : j.toInt = (i : Int)) (hi : i < n) (S : cl.slots.size = n) : ¬ (j < 0 ∨ cl.slots.size ≤ j.toNatClampNeg) := by
  rw [own_jn q, Int32.lt_iff_toInt_lt, q, S]; have : (0 : Int32).toInt = 0 := rfl; omega
theorem own_A.set (F : own_A Z h a k ty n f) {i : Nat} (hi : i < n) (W : Wr h h' a i v) : own_A Z h' a k ty n (fun x => if x = i then v else f x) := by
  obtain ⟨cl, A, r1, r2, r3, r4⟩ := F
  refine ⟨_, A.same W, r1, by rw [sz_set]; exact r2, r3, fun x hx => ?_⟩
  by_cases q : x = i
  · subst q; simp [Cell.setSlot, r2, hi]
  · show (cl.slots.setIfInBounds i v)[x]? = _
    rw [Array.getElem?_setIfInBounds_ne (Ne.symm q)]; simp only [q, if_false]; exact r4 x hx
theorem own_A.setL {L : List Value} {d : Value} (F : own_A Z h a k ty n (fun x => L.getD x d)) {i : Nat} (hi : i < n) (hL : i < L.length) (W : Wr h h' a i v) : own_A Z h' a k ty n (fun x => (L.set i v).getD x d) := by
  refine (F.set hi W).cong fun x hx => ?_
  by_cases q : x = i
  · subst q; simp [List.getD_eq_getElem?_getD, List.getElem?_set, hL]
  · simp [List.getD_eq_getElem?_getD, List.getElem?_set, q, Ne.symm q]
theorem own_A.setI {b : Nat → Int32} {x : Int32} (F : own_A Z h a k ty n (fun y => .int (b y))) {i : Nat} (hi : i < n) (W : Wr h h' a i (.int x)) : own_A Z h' a k ty n (fun y => .int (if y = i then x else b y)) := by
  refine (F.set hi W).cong fun y hy => ?_
  by_cases q : y = i <;> simp [q]
theorem own_A.setLI {L : List Int32} {x : Int32} (F : own_A Z h a k ty n (fun y => .int (L.getD y 0))) {i : Nat} (hi : i < n) (hL : i < L.length) (W : Wr h h' a i (.int x)) : own_A Z h' a k ty n (fun y => .int ((L.set i x).getD y 0)) := by
  refine (F.setI hi W).cong fun y hy => ?_
  by_cases q : y = i
  · subst q; simp [List.getD_eq_getElem?_getD, List.getElem?_set, hL]
  · simp [List.getD_eq_getElem?_getD, List.getElem?_set, q, Ne.symm q]
theorem own_A.snocI {L : List Int32} {x : Int32} (F : own_A Z h a k ty n (fun y => .int (L.getD y 0))) {i : Nat} (hi : i < n) (hL : L.length = i) (W : Wr h h' a i (.int x)) : own_A Z h' a k ty n (fun y => .int ((L ++ [x]).getD y 0)) := by
  refine (F.setI hi W).cong fun y hy => ?_
  by_cases q : y = i
  · subst q; subst hL; simp [List.getD_eq_getElem?_getD]
  · by_cases r : y < L.length
    · simp [List.getD_eq_getElem?_getD, q, List.getElem?_append_left r]
    · have h1 : L[y]? = none := List.getElem?_eq_none (by omega)
      have h2 : (L ++ [x])[y]? = none := List.getElem?_eq_none (by simp; omega)
      simp [List.getD_eq_getElem?_getD, q, h1, h2]
theorem own_A.newI {z : Int32} (A : Arr Z h a (newA k ty z) ty) (q : ¬ z < 0) (n : Nat) (hn : z.toNatClampNeg = n) (hd : defaultValue ty = .int 0) : own_A Z h a k ty n (fun _ => .int 0) := by
  subst hn; rw [← hd]; exact own_A.new A q
theorem own_A.newLI {z : Int32} (A : Arr Z h a (newA k ty z) ty) (q : ¬ z < 0) (n : Nat) (hn : z.toNatClampNeg = n) (hd : defaultValue ty = .int 0) : own_A Z h a k ty n (fun y => .int ((List.replicate n (0 : Int32)).getD y 0)) := by
  refine (own_A.newI A q n hn hd).cong fun i hi => ?_
  simp [List.getD_eq_getElem?_getD, List.getElem?_replicate, hi]
theorem own_stI (X : Stand p l e R s m args below meth c T locs cells slots) (hx : p.tables.exec = Jvm.exec) (hZ : Z.Warmed39 s.vm) (eT : T.heap = h) (F : own_A Z h a k .int n f) {j x : Int32} (i : Nat) (q : j.toInt = (i : Int)) (hi : i < n) {pc : Nat} {Ls : Array Slot} {rest : List Value} (hd : decode c.code pc = .ok (.iastore, 1)) :
    ∃ T' h', Stand p l e R s m args below meth c T' (locs ++ [⟨a, i⟩]) cells slots ∧ T'.heap = h' ∧ Wr h h' a i (.int x) ∧ ∀ t, Steps p.tables e below (T'.setTop (mkF m (pc + 1) Ls rest)) t → Steps p.tables e below (T.setTop (mkF m pc Ls (.int x :: .int j :: .ref a :: rest))) t := by
  obtain ⟨cl, A, r1, r2, r3, r4⟩ := F
  have := stI X hx hZ eT A (j := j) (x := x) (own_in q hi r2) (g := mkF m pc Ls (.int x :: .int j :: .ref a :: rest)) rfl rfl hd
  rw [own_jn q] at this; exact this
theorem own_stB (X : Stand p l e R s m args below meth c T locs cells slots) (hx : p.tables.exec = Jvm.exec) (hZ : Z.Warmed39 s.vm) (eT : T.heap = h) (F : own_A Z h a k .byte n f) {j x : Int32} (x' : Int32) (hx' : nar .byte x = x') (i : Nat) (q : j.toInt = (i : Int)) (hi : i < n) {pc : Nat} {Ls : Array Slot} {rest : List Value} (hd : decode c.code pc = .ok (.bastore, 1)) :
    ∃ T' h', Stand p l e R s m args below meth c T' (locs ++ [⟨a, i⟩]) cells slots ∧ T'.heap = h' ∧ Wr h h' a i (.int x') ∧ ∀ t, Steps p.tables e below (T'.setTop (mkF m (pc + 1) Ls rest)) t → Steps p.tables e below (T.setTop (mkF m pc Ls (.int x :: .int j :: .ref a :: rest))) t := by
  obtain ⟨cl, A, r1, r2, r3, r4⟩ := F
  have := stB X hx hZ eT A (j := j) (x := x) (own_in q hi r2) (g := mkF m pc Ls (.int x :: .int j :: .ref a :: rest)) rfl rfl hd
  rw [own_jn q] at this; subst hx'; exact this
theorem own_stC (X : Stand p l e R s m args below meth c T locs cells slots) (hx : p.tables.exec = Jvm.exec) (hZ : Z.Warmed39 s.vm) (eT : T.heap = h) (F : own_A Z h a k .char n f) {j x : Int32} (x' : Int32) (hx' : nar .char x = x') (i : Nat) (q : j.toInt = (i : Int)) (hi : i < n) {pc : Nat} {Ls : Array Slot} {rest : List Value} (hd : decode c.code pc = .ok (.castore, 1)) :
    ∃ T' h', Stand p l e R s m args below meth c T' (locs ++ [⟨a, i⟩]) cells slots ∧ T'.heap = h' ∧ Wr h h' a i (.int x') ∧ ∀ t, Steps p.tables e below (T'.setTop (mkF m (pc + 1) Ls rest)) t → Steps p.tables e below (T.setTop (mkF m pc Ls (.int x :: .int j :: .ref a :: rest))) t := by
  obtain ⟨cl, A, r1, r2, r3, r4⟩ := F
  have := stC X hx hZ eT A (j := j) (x := x) (own_in q hi r2) (g := mkF m pc Ls (.int x :: .int j :: .ref a :: rest)) rfl rfl hd
  rw [own_jn q] at this; subst hx'; exact this
theorem own_stR (X : Stand p l e R s m args below meth c T locs cells slots) (hx : p.tables.exec = Jvm.exec) (hZ : Z.Warmed39 s.vm) (eT : T.heap = h) {C : String} (F : own_A Z h a k (.object C) n f) {j : Int32} {v : Value} (O : Ovr Z k C) (I : v = .null ∨ ∃ y, v = .ref y ∧ Ins Z h y C true) (i : Nat) (q : j.toInt = (i : Int)) (hi : i < n) {pc : Nat} {Ls : Array Slot} {rest : List Value} (hd : decode c.code pc = .ok (.aastore, 1)) :
    ∃ T' h', Stand p l e R s m args below meth c T' (locs ++ [⟨a, i⟩]) cells slots ∧ T'.heap = h' ∧ Wr h h' a i v ∧ ∀ t, Steps p.tables e below (T'.setTop (mkF m (pc + 1) Ls rest)) t → Steps p.tables e below (T.setTop (mkF m pc Ls (v :: .int j :: .ref a :: rest))) t := by
  obtain ⟨cl, A, r1, r2, r3, r4⟩ := F
  have S : Sto Z h a v := by
    rcases I with rfl | ⟨y, rfl, I⟩
    · exact Or.inl rfl
    · exact Sto.ofV A r1 O I
  have := stR X hx hZ eT A (j := j) (own_in q hi r2) rfl S (g := mkF m pc Ls (v :: .int j :: .ref a :: rest)) rfl rfl hd
  rw [own_jn q] at this; exact this
theorem own_stRA (X : Stand p l e R s m args below meth c T locs cells slots) (hx : p.tables.exec = Jvm.exec) (hZ : Z.Warmed39 s.vm) (eT : T.heap = h) {C : String} {t0 : FieldType} (F : own_A Z h a k (.array t0) n f) {j : Int32} {v : Value} (O : OvrA Z k t0 C) (I : v = .null ∨ ∃ y, v = .ref y ∧ Ins Z h y C true) (i : Nat) (q : j.toInt = (i : Int)) (hi : i < n) {pc : Nat} {Ls : Array Slot} {rest : List Value} (hd : decode c.code pc = .ok (.aastore, 1)) :
    ∃ T' h', Stand p l e R s m args below meth c T' (locs ++ [⟨a, i⟩]) cells slots ∧ T'.heap = h' ∧ Wr h h' a i v ∧ ∀ t, Steps p.tables e below (T'.setTop (mkF m (pc + 1) Ls rest)) t → Steps p.tables e below (T.setTop (mkF m pc Ls (v :: .int j :: .ref a :: rest))) t := by
  obtain ⟨cl, A, r1, r2, r3, r4⟩ := F
  have S : Sto Z h a v := by
    rcases I with rfl | ⟨y, rfl, I⟩
    · exact Or.inl rfl
    · exact Sto.ofVA A r1 O I
  have := stR X hx hZ eT A (j := j) (own_in q hi r2) rfl S (g := mkF m pc Ls (v :: .int j :: .ref a :: rest)) rfl rfl hd
  rw [own_jn q] at this; exact this
theorem own_ldI (X : Stand p l e R s m args below meth c T locs cells slots) (hx : p.tables.exec = Jvm.exec) (hZ : Z.Warmed39 s.vm) (eT : T.heap = h) (F : own_A Z h a k .int n f) {j : Int32} (i : Nat) (q : j.toInt = (i : Int)) (hi : i < n) {pc : Nat} {Ls : Array Slot} {rest : List Value} (hd : decode c.code pc = .ok (.iaload, 1)) :
    ∀ t, Steps p.tables e below (T.setTop (mkF m (pc + 1) Ls (f i :: rest))) t → Steps p.tables e below (T.setTop (mkF m pc Ls (.int j :: .ref a :: rest))) t := fun t kt => by
  obtain ⟨cl, A, r1, r2, r3, r4⟩ := F
  exact X.iaload hx (j := j) (v := f i) (by rw [eT]; exact A.1) (State.isArrayOf_alike hZ.alike A.2.1) A.2.2 (own_in q hi r2) (by rw [own_jn q]; exact r4 i hi) (g := mkF m pc Ls (.int j :: .ref a :: rest)) rfl rfl hd _ kt
theorem own_ldB (X : Stand p l e R s m args below meth c T locs cells slots) (hx : p.tables.exec = Jvm.exec) (hZ : Z.Warmed39 s.vm) (eT : T.heap = h) (F : own_A Z h a k .byte n f) {j : Int32} (i : Nat) (q : j.toInt = (i : Int)) (hi : i < n) {pc : Nat} {Ls : Array Slot} {rest : List Value} (hd : decode c.code pc = .ok (.baload, 1)) :
    ∀ t, Steps p.tables e below (T.setTop (mkF m (pc + 1) Ls (f i :: rest))) t → Steps p.tables e below (T.setTop (mkF m pc Ls (.int j :: .ref a :: rest))) t := fun t kt => by
  obtain ⟨cl, A, r1, r2, r3, r4⟩ := F
  exact X.baloadBytes hx (j := j) (v := f i) (by rw [eT]; exact A.1) (State.isArrayOf_alike hZ.alike A.2.1) A.2.2 (own_in q hi r2) (by rw [own_jn q]; exact r4 i hi) (g := mkF m pc Ls (.int j :: .ref a :: rest)) rfl rfl hd _ kt
theorem own_ldC (X : Stand p l e R s m args below meth c T locs cells slots) (hx : p.tables.exec = Jvm.exec) (hZ : Z.Warmed39 s.vm) (eT : T.heap = h) (F : own_A Z h a k .char n f) {j : Int32} (i : Nat) (q : j.toInt = (i : Int)) (hi : i < n) {pc : Nat} {Ls : Array Slot} {rest : List Value} (hd : decode c.code pc = .ok (.caload, 1)) :
    ∀ t, Steps p.tables e below (T.setTop (mkF m (pc + 1) Ls (f i :: rest))) t → Steps p.tables e below (T.setTop (mkF m pc Ls (.int j :: .ref a :: rest))) t := fun t kt => by
  obtain ⟨cl, A, r1, r2, r3, r4⟩ := F
  exact X.caload hx (j := j) (v := f i) (by rw [eT]; exact A.1) (State.isArrayOf_alike hZ.alike A.2.1) A.2.2 (own_in q hi r2) (by rw [own_jn q]; exact r4 i hi) (g := mkF m pc Ls (.int j :: .ref a :: rest)) rfl rfl hd _ kt
theorem own_ldR (X : Stand p l e R s m args below meth c T locs cells slots) (hx : p.tables.exec = Jvm.exec) (hZ : Z.Warmed39 s.vm) (eT : T.heap = h) (F : own_A Z h a k ty n f) (hty : ty.isReference = true) {j : Int32} (i : Nat) (q : j.toInt = (i : Int)) (hi : i < n) {pc : Nat} {Ls : Array Slot} {rest : List Value} (hd : decode c.code pc = .ok (.aaload, 1)) :
    ∀ t, Steps p.tables e below (T.setTop (mkF m (pc + 1) Ls (f i :: rest))) t → Steps p.tables e below (T.setTop (mkF m pc Ls (.int j :: .ref a :: rest))) t := fun t kt => by
  obtain ⟨cl, A, r1, r2, r3, r4⟩ := F
  exact X.aaload hx (j := j) (v := f i) (by rw [eT]; exact A.1) (State.isArrayOf_alike hZ.alike A.2.1) hty A.2.2 (own_in q hi r2) (by rw [own_jn q]; exact r4 i hi) (g := mkF m pc Ls (.int j :: .ref a :: rest)) rfl rfl hd _ kt
theorem own_len (X : Stand p l e R s m args below meth c T locs cells slots) (hx : p.tables.exec = Jvm.exec) (hZ : Z.Warmed39 s.vm) (eT : T.heap = h) (F : own_A Z h a k ty n f) {pc : Nat} {Ls : Array Slot} {rest : List Value} (hd : decode c.code pc = .ok (.arraylength, 1)) (z : Int32) (hz : z.toInt = (n : Int)) :
    ∀ t, Steps p.tables e below (T.setTop (mkF m (pc + 1) Ls (.int z :: rest))) t → Steps p.tables e below (T.setTop (mkF m pc Ls (.ref a :: rest))) t := fun t kt => by
  obtain ⟨cl, A, r1, r2, r3, r4⟩ := F
  have q : cl.slots.size.toInt32 = z := by
    apply Int32.toInt_inj.mp; rw [r2, hz]; exact len_toInt r3
  exact X.arraylength hx (by rw [eT]; exact A.1) (State.isArrayOf_alike hZ.alike A.2.1) (g := mkF m pc Ls (.ref a :: rest)) rfl rfl hd _ (by rw [q]; exact kt)
theorem own_nb (x : Int32) : nar .byte x.toInt8.toInt32 = x.toInt8.toInt32 := by simp [nar]
theorem own_nc (x : Int32) : nar .char x.toUInt32.toUInt16.toUInt32.toInt32 = x.toUInt32.toUInt16.toUInt32.toInt32 := by
  have := Jvm.Free.XT.narrow_c x
  simpa [nar, narrow] using this
theorem own_nz {z : Int32} (q : z = 0 ∨ z = 1) : nar .boolean z = z := by rcases q with rfl | rfl <;> rfl
theorem own_bt {P : Prop} [Decidable P] (q : P) : ¬ ((if P then (1 : Int32) else 0) = 0) := by simp [q]
theorem own_bf {P : Prop} [Decidable P] (q : ¬ P) : (if P then (1 : Int32) else 0) = 0 := by simp [q]
theorem own_nt {P : Prop} [Decidable P] (q : P) : (if P then (0 : Int32) else 1) = 0 := by simp [q]
theorem own_nf {P : Prop} [Decidable P] (q : ¬ P) : ¬ ((if P then (0 : Int32) else 1) = 0) := by simp [q]
theorem own_lrem {target : State} (X : Stand p l e R s m args below meth c T locs cells slots) (hx : p.tables.exec = Jvm.exec) (hg : g.method = m) {x y : Int64} {rest : List Value} (hd : decode c.code g.pc = .ok (.lrem, 1)) (hs : g.stack = .long y :: .long x :: rest) (hy : y ≠ 0)
    (hr : Steps p.tables e below (T.setTop { g with pc := g.pc + 1, stack := .long (x % y) :: rest }) target) : Steps p.tables e below (T.setTop g) target := XS.lrem X.here hx hg hd hs hy (by rw [lrem_mod]; exact hr)
end OwnKit
theorem djdk_30_method_1_code_0 : decode jdk_30_method_1_code 0 = .ok (.aload_n 0, 1) := by decide +kernel
theorem djdk_30_method_1_code_1 : decode jdk_30_method_1_code 1 = .ok (.invokespecial 1, 3) := by decide +kernel
theorem djdk_30_method_1_code_4 : decode jdk_30_method_1_code 4 = .ok (.return_, 1) := by decide +kernel
theorem ef_rm2 (m_ : MethodId) (a : Addr) : entryFrame m_ #[(.ref a)] 1 = mkF m_ 0 #[.val (.ref a)] [] := by first | (simp [entryFrame, mkF, argsToLocals, Value.category]; done) | rfl
theorem own_pn0 : plainName "java/lang/Record" = true := by first | (simp [plainName, overriddenIn]; done) | decide +kernel
set_option maxRecDepth 65536 in
set_option maxHeartbeats 40000000 in
theorem rm2 (l : Launch) (Z : State) (a0 : Array Value) (hw : ∀ d ∈ tables_1, d.before a0 Z = true) (a : Addr) (h0 : Heap) (n0 : Nat) (Z0 : n0 ≤ h0.size)  :
    own_Met l Z (⟨"java/lang/Record", "<init>", "()V"⟩ : MethodName) jdk_30_method_1_code 1 none ({ frames := 1, cells := 0, slots := 0, locals := 12 } : Room) #[(.ref a)] h0 (fun v h L => v = none ∧ Fr n0 L ∧ h = h0) := by
  refine own_body #[.val (.ref a)] (plainFor_of_name own_pn0) (fun m_ => ef_rm2 m_ a) ?_
  intro p_ e_ s_ m_ below meth c_ s₁ X0 hx hby hml hret hlk hZ hown hnm e0
  have N0 := Fr.nil n0
  show own_Out p_ e_ below s_ _ _ _ s₁ (mkF m_ 0 #[.val (.ref a)] [])
  refine own_st s₁ (mkF m_ 1 #[.val (.ref a)] [(.ref a)]) (fun t_ k_ => ?_) ?_
  · refine XS.aloadN X0.here hx rfl (hb hby djdk_30_method_1_code_0) rfl rfl ?_
    show Steps p_.tables e_ below (s₁.setTop (mkF m_ 1 #[.val (.ref a)] [(.ref a)])) t_
    exact k_
  obtain ⟨T1, X1, e1, st1⟩ := initO X0 hx hZ hown (hw _ (List.mem_of_getElem? (i := 12) rfl)) (hw _ (List.mem_of_getElem? (i := 13) rfl)) (hw _ (List.mem_of_getElem? (i := 14) rfl)) e0 (g := (mkF m_ 1 #[.val (.ref a)] [(.ref a)])) rfl (by rw [hml]; rfl) rfl (hb hby djdk_30_method_1_code_1) (by decide) (W := 0) (by show 2 * 0 + _ ≤ _; exact Nat.le_of_eq rfl) (by decide)
  refine own_st T1 (mkF m_ 4 #[.val (.ref a)] []) st1 ?_
  refine own_ret0 X1 hx hlk hret (hb hby djdk_30_method_1_code_4) (by decide) (by decide) ?_
  rw [e1]
  exact ⟨rfl, N0, rfl⟩
theorem dprog_51_method_1_code_0 : decode prog_51_method_1_code 0 = .ok (.aload_n 0, 1) := by decide +kernel
theorem own_pd0 : parseMethodDescriptor "()V" = some ⟨[], none⟩ := by decide +kernel
theorem dprog_51_method_1_code_1 : decode prog_51_method_1_code 1 = .ok (.invokespecial 1, 3) := by decide +kernel
theorem dprog_51_method_1_code_4 : decode prog_51_method_1_code 4 = .ok (.aload_n 0, 1) := by decide +kernel
theorem dprog_51_method_1_code_5 : decode prog_51_method_1_code 5 = .ok (.aload_n 1, 1) := by decide +kernel
theorem dprog_51_method_1_code_6 : decode prog_51_method_1_code 6 = .ok (.putfield 7, 3) := by decide +kernel
theorem dprog_51_method_1_code_9 : decode prog_51_method_1_code 9 = .ok (.aload_n 0, 1) := by decide +kernel
theorem dprog_51_method_1_code_10 : decode prog_51_method_1_code 10 = .ok (.aload_n 2, 1) := by decide +kernel
theorem dprog_51_method_1_code_11 : decode prog_51_method_1_code 11 = .ok (.putfield 13, 3) := by decide +kernel
theorem dprog_51_method_1_code_14 : decode prog_51_method_1_code 14 = .ok (.aload_n 0, 1) := by decide +kernel
theorem dprog_51_method_1_code_15 : decode prog_51_method_1_code 15 = .ok (.iload_n 3, 1) := by decide +kernel
theorem dprog_51_method_1_code_16 : decode prog_51_method_1_code 16 = .ok (.putfield 16, 3) := by decide +kernel
theorem dprog_51_method_1_code_19 : decode prog_51_method_1_code 19 = .ok (.aload_n 0, 1) := by decide +kernel
theorem dprog_51_method_1_code_20 : decode prog_51_method_1_code 20 = .ok (.iload 4, 2) := by decide +kernel
theorem dprog_51_method_1_code_22 : decode prog_51_method_1_code 22 = .ok (.putfield 20, 3) := by decide +kernel
theorem dprog_51_method_1_code_25 : decode prog_51_method_1_code 25 = .ok (.return_, 1) := by decide +kernel
theorem ef_rm1 (m_ : MethodId) (a : Addr) (key : Addr) (val : Addr) (x : Int32) (y : Int32) : entryFrame m_ #[(.ref a), (.ref key), (.ref val), (.int x), (.int y)] 5 = mkF m_ 0 #[.val (.ref a), .val (.ref key), .val (.ref val), .val (.int x), .val (.int y)] [] := by first | (simp [entryFrame, mkF, argsToLocals, Value.category]; done) | rfl
theorem own_pn1 : plainName "com/example/varrowkeep/varrowkeep/storage/Node$LeafCell" = true := by first | (simp [plainName, overriddenIn]; done) | decide +kernel
set_option maxRecDepth 65536 in
set_option maxHeartbeats 40000000 in
theorem rm1 (l : Launch) (Z : State) (a0 : Array Value) (hw : ∀ d ∈ tables_1, d.before a0 Z = true) (a : Addr) (key : Addr) (val : Addr) (x : Int32) (y : Int32) (h0 : Heap) (n0 : Nat) (Z0 : n0 ≤ h0.size) (E_a : Exa Z h0 a "com/example/varrowkeep/varrowkeep/storage/Node$LeafCell") (F_key_a : Fld Z h0 a "com/example/varrowkeep/varrowkeep/storage/Node$LeafCell" "key" "[B" .null) (F_value_a : Fld Z h0 a "com/example/varrowkeep/varrowkeep/storage/Node$LeafCell" "value" "[B" .null) (F_overflowLength_a : Fld Z h0 a "com/example/varrowkeep/varrowkeep/storage/Node$LeafCell" "overflowLength" "I" (.int (0 : Int32))) (F_overflowPage_a : Fld Z h0 a "com/example/varrowkeep/varrowkeep/storage/Node$LeafCell" "overflowPage" "I" (.int (0 : Int32))) (g_a : n0 ≤ a) :
    own_Met l Z (⟨"com/example/varrowkeep/varrowkeep/storage/Node$LeafCell", "<init>", "([B[BII)V"⟩ : MethodName) prog_51_method_1_code 5 none ({ frames := 2, cells := 0, slots := 0, locals := 24 } : Room) #[(.ref a), (.ref key), (.ref val), (.int x), (.int y)] h0 (fun v h L => v = none ∧ Fr n0 L ∧ Keep h0 h [a] ∧ Exa Z h a "com/example/varrowkeep/varrowkeep/storage/Node$LeafCell" ∧ Fld Z h a "com/example/varrowkeep/varrowkeep/storage/Node$LeafCell" "key" "[B" (.ref key) ∧ Fld Z h a "com/example/varrowkeep/varrowkeep/storage/Node$LeafCell" "value" "[B" (.ref val) ∧ Fld Z h a "com/example/varrowkeep/varrowkeep/storage/Node$LeafCell" "overflowLength" "I" (.int x) ∧ Fld Z h a "com/example/varrowkeep/varrowkeep/storage/Node$LeafCell" "overflowPage" "I" (.int y)) := by
  refine own_body #[.val (.ref a), .val (.ref key), .val (.ref val), .val (.int x), .val (.int y)] (plainFor_of_name own_pn1) (fun m_ => ef_rm1 m_ a key val x y) ?_
  intro p_ e_ s_ m_ below meth c_ s₁ X0 hx hby hml hret hlk hZ hown hnm e0
  have N0 := Fr.nil n0
  have KP := Keep.refl h0 [a]
  show own_Out p_ e_ below s_ _ _ _ s₁ (mkF m_ 0 #[.val (.ref a), .val (.ref key), .val (.ref val), .val (.int x), .val (.int y)] [])
  refine own_st s₁ (mkF m_ 1 #[.val (.ref a), .val (.ref key), .val (.ref val), .val (.int x), .val (.int y)] [(.ref a)]) (fun t_ k_ => ?_) ?_
  · refine XS.aloadN X0.here hx rfl (hb hby dprog_51_method_1_code_0) rfl rfl ?_
    show Steps p_.tables e_ below (s₁.setTop (mkF m_ 1 #[.val (.ref a), .val (.ref key), .val (.ref val), .val (.int x), .val (.int y)] [(.ref a)])) t_
    exact k_
  refine own_callC X0 hx hZ rfl hown (hw _ (List.mem_of_getElem? (i := 7) rfl)) (hw _ (List.mem_of_getElem? (i := 8) rfl)) (hw _ (List.mem_of_getElem? (i := 10) rfl)) (hw _ (List.mem_of_getElem? (i := 11) rfl)) (by decide) a [] [] (rm2 l Z a0 hw a h0 n0 Z0) 0 (by decide) (by decide) e0 (by rw [hml]; rfl) (lenOf own_pd0 rfl) rfl (Nat.le_of_eq rfl) (hb hby dprog_51_method_1_code_1) (by decide) (by decide) ?_
  intro v1 T1 L1 X1 q1
  obtain ⟨rfl, N1q, e1⟩ := q1
  have N1 := Fr.app N0 N1q
  show own_Out p_ e_ below s_ _ _ _ T1 (mkF m_ 4 #[.val (.ref a), .val (.ref key), .val (.ref val), .val (.int x), .val (.int y)] [])
  refine own_st T1 (mkF m_ 6 #[.val (.ref a), .val (.ref key), .val (.ref val), .val (.int x), .val (.int y)] [(.ref key), (.ref a)]) (fun t_ k_ => ?_) ?_
  · refine XS.aloadN X1.here hx rfl (hb hby dprog_51_method_1_code_4) rfl rfl ?_
    show Steps p_.tables e_ below (T1.setTop (mkF m_ 5 #[.val (.ref a), .val (.ref key), .val (.ref val), .val (.int x), .val (.int y)] [(.ref a)])) t_
    refine XS.aloadN X1.here hx rfl (hb hby dprog_51_method_1_code_5) rfl rfl ?_
    show Steps p_.tables e_ below (T1.setTop (mkF m_ 6 #[.val (.ref a), .val (.ref key), .val (.ref val), .val (.int x), .val (.int y)] [(.ref key), (.ref a)])) t_
    exact k_
  obtain ⟨T2, h2, X2, e2, W2, st2⟩ := putF X1 hx hZ hown (host := "") (Or.inl (hw _ (List.mem_of_getElem? (i := 15) rfl))) Via.refl e1 F_key_a E_a (Or.inr ⟨(hw _ (List.mem_of_getElem? (i := 16) rfl)), rfl, hnm⟩) (hw _ (List.mem_of_getElem? (i := 2) rfl)) (ty := (.array .byte)) (by decide) rfl rfl (g := (mkF m_ 6 #[.val (.ref a), .val (.ref key), .val (.ref val), .val (.int x), .val (.int y)] [(.ref key), (.ref a)])) rfl rfl (hb hby dprog_51_method_1_code_6)
  have N2 := Fr.snoc X2 N1 g_a
  replace Z0 : n0 ≤ h2.size := W2.size ▸ Z0
  replace KP := KP.wr W2 (Or.inl (List.mem_of_getElem? (i := 0) rfl))
  replace E_a := E_a.wr W2
  replace F_value_a := F_value_a.other W2 (Or.inr (slot_ne (Or.inr (hw _ (List.mem_of_getElem? (i := 18) rfl))) (Or.inr (hw _ (List.mem_of_getElem? (i := 16) rfl))) (by decide) (t := (.array .byte)) (t' := (.array .byte)) (by decide) (by decide)))
  replace F_overflowLength_a := F_overflowLength_a.other W2 (Or.inr (slot_ne (Or.inr (hw _ (List.mem_of_getElem? (i := 20) rfl))) (Or.inr (hw _ (List.mem_of_getElem? (i := 16) rfl))) (by decide) (t := .int) (t' := (.array .byte)) (by decide) (by decide)))
  replace F_overflowPage_a := F_overflowPage_a.other W2 (Or.inr (slot_ne (Or.inr (hw _ (List.mem_of_getElem? (i := 22) rfl))) (Or.inr (hw _ (List.mem_of_getElem? (i := 16) rfl))) (by decide) (t := .int) (t' := (.array .byte)) (by decide) (by decide)))
  replace F_key_a := F_key_a.same W2
  refine own_st T2 (mkF m_ 9 #[.val (.ref a), .val (.ref key), .val (.ref val), .val (.int x), .val (.int y)] []) st2 ?_
  refine own_st T2 (mkF m_ 11 #[.val (.ref a), .val (.ref key), .val (.ref val), .val (.int x), .val (.int y)] [(.ref val), (.ref a)]) (fun t_ k_ => ?_) ?_
  · refine XS.aloadN X2.here hx rfl (hb hby dprog_51_method_1_code_9) rfl rfl ?_
    show Steps p_.tables e_ below (T2.setTop (mkF m_ 10 #[.val (.ref a), .val (.ref key), .val (.ref val), .val (.int x), .val (.int y)] [(.ref a)])) t_
    refine XS.aloadN X2.here hx rfl (hb hby dprog_51_method_1_code_10) rfl rfl ?_
    show Steps p_.tables e_ below (T2.setTop (mkF m_ 11 #[.val (.ref a), .val (.ref key), .val (.ref val), .val (.int x), .val (.int y)] [(.ref val), (.ref a)])) t_
    exact k_
  obtain ⟨T3, h3, X3, e3, W3, st3⟩ := putF X2 hx hZ hown (host := "") (Or.inl (hw _ (List.mem_of_getElem? (i := 17) rfl))) Via.refl e2 F_value_a E_a (Or.inr ⟨(hw _ (List.mem_of_getElem? (i := 18) rfl)), rfl, hnm⟩) (hw _ (List.mem_of_getElem? (i := 2) rfl)) (ty := (.array .byte)) (by decide) rfl rfl (g := (mkF m_ 11 #[.val (.ref a), .val (.ref key), .val (.ref val), .val (.int x), .val (.int y)] [(.ref val), (.ref a)])) rfl rfl (hb hby dprog_51_method_1_code_11)
  have N3 := Fr.snoc X3 N2 g_a
  replace Z0 : n0 ≤ h3.size := W3.size ▸ Z0
  replace KP := KP.wr W3 (Or.inl (List.mem_of_getElem? (i := 0) rfl))
  replace E_a := E_a.wr W3
  replace F_key_a := F_key_a.other W3 (Or.inr (slot_ne (Or.inr (hw _ (List.mem_of_getElem? (i := 16) rfl))) (Or.inr (hw _ (List.mem_of_getElem? (i := 18) rfl))) (by decide) (t := (.array .byte)) (t' := (.array .byte)) (by decide) (by decide)))
  replace F_overflowLength_a := F_overflowLength_a.other W3 (Or.inr (slot_ne (Or.inr (hw _ (List.mem_of_getElem? (i := 20) rfl))) (Or.inr (hw _ (List.mem_of_getElem? (i := 18) rfl))) (by decide) (t := .int) (t' := (.array .byte)) (by decide) (by decide)))
  replace F_overflowPage_a := F_overflowPage_a.other W3 (Or.inr (slot_ne (Or.inr (hw _ (List.mem_of_getElem? (i := 22) rfl))) (Or.inr (hw _ (List.mem_of_getElem? (i := 18) rfl))) (by decide) (t := .int) (t' := (.array .byte)) (by decide) (by decide)))
  replace F_value_a := F_value_a.same W3
  refine own_st T3 (mkF m_ 14 #[.val (.ref a), .val (.ref key), .val (.ref val), .val (.int x), .val (.int y)] []) st3 ?_
  refine own_st T3 (mkF m_ 16 #[.val (.ref a), .val (.ref key), .val (.ref val), .val (.int x), .val (.int y)] [(.int x), (.ref a)]) (fun t_ k_ => ?_) ?_
  · refine XS.aloadN X3.here hx rfl (hb hby dprog_51_method_1_code_14) rfl rfl ?_
    show Steps p_.tables e_ below (T3.setTop (mkF m_ 15 #[.val (.ref a), .val (.ref key), .val (.ref val), .val (.int x), .val (.int y)] [(.ref a)])) t_
    refine XS.iloadN X3.here hx rfl (hb hby dprog_51_method_1_code_15) rfl ?_
    show Steps p_.tables e_ below (T3.setTop (mkF m_ 16 #[.val (.ref a), .val (.ref key), .val (.ref val), .val (.int x), .val (.int y)] [(.int x), (.ref a)])) t_
    exact k_
  obtain ⟨T4, h4, X4, e4, W4, st4⟩ := putF X3 hx hZ hown (host := "") (Or.inl (hw _ (List.mem_of_getElem? (i := 19) rfl))) Via.refl e3 F_overflowLength_a E_a (Or.inr ⟨(hw _ (List.mem_of_getElem? (i := 20) rfl)), rfl, hnm⟩) (hw _ (List.mem_of_getElem? (i := 2) rfl)) (ty := .int) (by decide) rfl rfl (g := (mkF m_ 16 #[.val (.ref a), .val (.ref key), .val (.ref val), .val (.int x), .val (.int y)] [(.int x), (.ref a)])) rfl rfl (hb hby dprog_51_method_1_code_16)
  have N4 := Fr.snoc X4 N3 g_a
  replace Z0 : n0 ≤ h4.size := W4.size ▸ Z0
  replace KP := KP.wr W4 (Or.inl (List.mem_of_getElem? (i := 0) rfl))
  replace E_a := E_a.wr W4
  replace F_key_a := F_key_a.other W4 (Or.inr (slot_ne (Or.inr (hw _ (List.mem_of_getElem? (i := 16) rfl))) (Or.inr (hw _ (List.mem_of_getElem? (i := 20) rfl))) (by decide) (t := (.array .byte)) (t' := .int) (by decide) (by decide)))
  replace F_value_a := F_value_a.other W4 (Or.inr (slot_ne (Or.inr (hw _ (List.mem_of_getElem? (i := 18) rfl))) (Or.inr (hw _ (List.mem_of_getElem? (i := 20) rfl))) (by decide) (t := (.array .byte)) (t' := .int) (by decide) (by decide)))
  replace F_overflowPage_a := F_overflowPage_a.other W4 (Or.inr (slot_ne (Or.inr (hw _ (List.mem_of_getElem? (i := 22) rfl))) (Or.inr (hw _ (List.mem_of_getElem? (i := 20) rfl))) (by decide) (t := .int) (t' := .int) (by decide) (by decide)))
  replace F_overflowLength_a := F_overflowLength_a.same W4
  refine own_st T4 (mkF m_ 19 #[.val (.ref a), .val (.ref key), .val (.ref val), .val (.int x), .val (.int y)] []) st4 ?_
  refine own_st T4 (mkF m_ 22 #[.val (.ref a), .val (.ref key), .val (.ref val), .val (.int x), .val (.int y)] [(.int y), (.ref a)]) (fun t_ k_ => ?_) ?_
  · refine XS.aloadN X4.here hx rfl (hb hby dprog_51_method_1_code_19) rfl rfl ?_
    show Steps p_.tables e_ below (T4.setTop (mkF m_ 20 #[.val (.ref a), .val (.ref key), .val (.ref val), .val (.int x), .val (.int y)] [(.ref a)])) t_
    refine XS.iload X4.here hx rfl (hb hby dprog_51_method_1_code_20) rfl ?_
    show Steps p_.tables e_ below (T4.setTop (mkF m_ 22 #[.val (.ref a), .val (.ref key), .val (.ref val), .val (.int x), .val (.int y)] [(.int y), (.ref a)])) t_
    exact k_
  obtain ⟨T5, h5, X5, e5, W5, st5⟩ := putF X4 hx hZ hown (host := "") (Or.inl (hw _ (List.mem_of_getElem? (i := 21) rfl))) Via.refl e4 F_overflowPage_a E_a (Or.inr ⟨(hw _ (List.mem_of_getElem? (i := 22) rfl)), rfl, hnm⟩) (hw _ (List.mem_of_getElem? (i := 2) rfl)) (ty := .int) (by decide) rfl rfl (g := (mkF m_ 22 #[.val (.ref a), .val (.ref key), .val (.ref val), .val (.int x), .val (.int y)] [(.int y), (.ref a)])) rfl rfl (hb hby dprog_51_method_1_code_22)
  have N5 := Fr.snoc X5 N4 g_a
  replace Z0 : n0 ≤ h5.size := W5.size ▸ Z0
  replace KP := KP.wr W5 (Or.inl (List.mem_of_getElem? (i := 0) rfl))
  replace E_a := E_a.wr W5
  replace F_key_a := F_key_a.other W5 (Or.inr (slot_ne (Or.inr (hw _ (List.mem_of_getElem? (i := 16) rfl))) (Or.inr (hw _ (List.mem_of_getElem? (i := 22) rfl))) (by decide) (t := (.array .byte)) (t' := .int) (by decide) (by decide)))
  replace F_value_a := F_value_a.other W5 (Or.inr (slot_ne (Or.inr (hw _ (List.mem_of_getElem? (i := 18) rfl))) (Or.inr (hw _ (List.mem_of_getElem? (i := 22) rfl))) (by decide) (t := (.array .byte)) (t' := .int) (by decide) (by decide)))
  replace F_overflowLength_a := F_overflowLength_a.other W5 (Or.inr (slot_ne (Or.inr (hw _ (List.mem_of_getElem? (i := 20) rfl))) (Or.inr (hw _ (List.mem_of_getElem? (i := 22) rfl))) (by decide) (t := .int) (t' := .int) (by decide) (by decide)))
  replace F_overflowPage_a := F_overflowPage_a.same W5
  refine own_st T5 (mkF m_ 25 #[.val (.ref a), .val (.ref key), .val (.ref val), .val (.int x), .val (.int y)] []) st5 ?_
  refine own_ret0 X5 hx hlk hret (hb hby dprog_51_method_1_code_25) (by decide) (by decide) ?_
  rw [e5]
  exact ⟨rfl, N5, KP, E_a, F_key_a, F_value_a, F_overflowLength_a, F_overflowPage_a⟩
theorem ef_rm1n (m_ : MethodId) (a : Addr) (key : Addr) (x : Int32) (y : Int32) : entryFrame m_ #[(.ref a), (.ref key), .null, (.int x), (.int y)] 5 = mkF m_ 0 #[.val (.ref a), .val (.ref key), .val .null, .val (.int x), .val (.int y)] [] := by first | (simp [entryFrame, mkF, argsToLocals, Value.category]; done) | rfl
set_option maxRecDepth 65536 in
set_option maxHeartbeats 40000000 in
theorem rm1n (l : Launch) (Z : State) (a0 : Array Value) (hw : ∀ d ∈ tables_1, d.before a0 Z = true) (a : Addr) (key : Addr) (x : Int32) (y : Int32) (h0 : Heap) (n0 : Nat) (Z0 : n0 ≤ h0.size) (E_a : Exa Z h0 a "com/example/varrowkeep/varrowkeep/storage/Node$LeafCell") (F_key_a : Fld Z h0 a "com/example/varrowkeep/varrowkeep/storage/Node$LeafCell" "key" "[B" .null) (F_value_a : Fld Z h0 a "com/example/varrowkeep/varrowkeep/storage/Node$LeafCell" "value" "[B" .null) (F_overflowLength_a : Fld Z h0 a "com/example/varrowkeep/varrowkeep/storage/Node$LeafCell" "overflowLength" "I" (.int (0 : Int32))) (F_overflowPage_a : Fld Z h0 a "com/example/varrowkeep/varrowkeep/storage/Node$LeafCell" "overflowPage" "I" (.int (0 : Int32))) (g_a : n0 ≤ a) :
    own_Met l Z (⟨"com/example/varrowkeep/varrowkeep/storage/Node$LeafCell", "<init>", "([B[BII)V"⟩ : MethodName) prog_51_method_1_code 5 none ({ frames := 2, cells := 0, slots := 0, locals := 24 } : Room) #[(.ref a), (.ref key), .null, (.int x), (.int y)] h0 (fun v h L => v = none ∧ Fr n0 L ∧ Keep h0 h [a] ∧ Exa Z h a "com/example/varrowkeep/varrowkeep/storage/Node$LeafCell" ∧ Fld Z h a "com/example/varrowkeep/varrowkeep/storage/Node$LeafCell" "key" "[B" (.ref key) ∧ Fld Z h a "com/example/varrowkeep/varrowkeep/storage/Node$LeafCell" "value" "[B" .null ∧ Fld Z h a "com/example/varrowkeep/varrowkeep/storage/Node$LeafCell" "overflowLength" "I" (.int x) ∧ Fld Z h a "com/example/varrowkeep/varrowkeep/storage/Node$LeafCell" "overflowPage" "I" (.int y)) := by
  refine own_body #[.val (.ref a), .val (.ref key), .val .null, .val (.int x), .val (.int y)] (plainFor_of_name own_pn1) (fun m_ => ef_rm1n m_ a key x y) ?_
  intro p_ e_ s_ m_ below meth c_ s₁ X0 hx hby hml hret hlk hZ hown hnm e0
  have N0 := Fr.nil n0
  have KP := Keep.refl h0 [a]
  show own_Out p_ e_ below s_ _ _ _ s₁ (mkF m_ 0 #[.val (.ref a), .val (.ref key), .val .null, .val (.int x), .val (.int y)] [])
  refine own_st s₁ (mkF m_ 1 #[.val (.ref a), .val (.ref key), .val .null, .val (.int x), .val (.int y)] [(.ref a)]) (fun t_ k_ => ?_) ?_
  · refine XS.aloadN X0.here hx rfl (hb hby dprog_51_method_1_code_0) rfl rfl ?_
    show Steps p_.tables e_ below (s₁.setTop (mkF m_ 1 #[.val (.ref a), .val (.ref key), .val .null, .val (.int x), .val (.int y)] [(.ref a)])) t_
    exact k_
  refine own_callC X0 hx hZ rfl hown (hw _ (List.mem_of_getElem? (i := 7) rfl)) (hw _ (List.mem_of_getElem? (i := 8) rfl)) (hw _ (List.mem_of_getElem? (i := 10) rfl)) (hw _ (List.mem_of_getElem? (i := 11) rfl)) (by decide) a [] [] (rm2 l Z a0 hw a h0 n0 Z0) 0 (by decide) (by decide) e0 (by rw [hml]; rfl) (lenOf own_pd0 rfl) rfl (Nat.le_of_eq rfl) (hb hby dprog_51_method_1_code_1) (by decide) (by decide) ?_
  intro v1 T1 L1 X1 q1
  obtain ⟨rfl, N1q, e1⟩ := q1
  have N1 := Fr.app N0 N1q
  show own_Out p_ e_ below s_ _ _ _ T1 (mkF m_ 4 #[.val (.ref a), .val (.ref key), .val .null, .val (.int x), .val (.int y)] [])
  refine own_st T1 (mkF m_ 6 #[.val (.ref a), .val (.ref key), .val .null, .val (.int x), .val (.int y)] [(.ref key), (.ref a)]) (fun t_ k_ => ?_) ?_
  · refine XS.aloadN X1.here hx rfl (hb hby dprog_51_method_1_code_4) rfl rfl ?_
    show Steps p_.tables e_ below (T1.setTop (mkF m_ 5 #[.val (.ref a), .val (.ref key), .val .null, .val (.int x), .val (.int y)] [(.ref a)])) t_
    refine XS.aloadN X1.here hx rfl (hb hby dprog_51_method_1_code_5) rfl rfl ?_
    show Steps p_.tables e_ below (T1.setTop (mkF m_ 6 #[.val (.ref a), .val (.ref key), .val .null, .val (.int x), .val (.int y)] [(.ref key), (.ref a)])) t_
    exact k_
  obtain ⟨T2, h2, X2, e2, W2, st2⟩ := putF X1 hx hZ hown (host := "") (Or.inl (hw _ (List.mem_of_getElem? (i := 15) rfl))) Via.refl e1 F_key_a E_a (Or.inr ⟨(hw _ (List.mem_of_getElem? (i := 16) rfl)), rfl, hnm⟩) (hw _ (List.mem_of_getElem? (i := 2) rfl)) (ty := (.array .byte)) (by decide) rfl rfl (g := (mkF m_ 6 #[.val (.ref a), .val (.ref key), .val .null, .val (.int x), .val (.int y)] [(.ref key), (.ref a)])) rfl rfl (hb hby dprog_51_method_1_code_6)
  have N2 := Fr.snoc X2 N1 g_a
  replace Z0 : n0 ≤ h2.size := W2.size ▸ Z0
  replace KP := KP.wr W2 (Or.inl (List.mem_of_getElem? (i := 0) rfl))
  replace E_a := E_a.wr W2
  replace F_value_a := F_value_a.other W2 (Or.inr (slot_ne (Or.inr (hw _ (List.mem_of_getElem? (i := 18) rfl))) (Or.inr (hw _ (List.mem_of_getElem? (i := 16) rfl))) (by decide) (t := (.array .byte)) (t' := (.array .byte)) (by decide) (by decide)))
  replace F_overflowLength_a := F_overflowLength_a.other W2 (Or.inr (slot_ne (Or.inr (hw _ (List.mem_of_getElem? (i := 20) rfl))) (Or.inr (hw _ (List.mem_of_getElem? (i := 16) rfl))) (by decide) (t := .int) (t' := (.array .byte)) (by decide) (by decide)))
  replace F_overflowPage_a := F_overflowPage_a.other W2 (Or.inr (slot_ne (Or.inr (hw _ (List.mem_of_getElem? (i := 22) rfl))) (Or.inr (hw _ (List.mem_of_getElem? (i := 16) rfl))) (by decide) (t := .int) (t' := (.array .byte)) (by decide) (by decide)))
  replace F_key_a := F_key_a.same W2
  refine own_st T2 (mkF m_ 9 #[.val (.ref a), .val (.ref key), .val .null, .val (.int x), .val (.int y)] []) st2 ?_
  refine own_st T2 (mkF m_ 11 #[.val (.ref a), .val (.ref key), .val .null, .val (.int x), .val (.int y)] [.null, (.ref a)]) (fun t_ k_ => ?_) ?_
  · refine XS.aloadN X2.here hx rfl (hb hby dprog_51_method_1_code_9) rfl rfl ?_
    show Steps p_.tables e_ below (T2.setTop (mkF m_ 10 #[.val (.ref a), .val (.ref key), .val .null, .val (.int x), .val (.int y)] [(.ref a)])) t_
    refine XS.aloadN X2.here hx rfl (hb hby dprog_51_method_1_code_10) rfl rfl ?_
    show Steps p_.tables e_ below (T2.setTop (mkF m_ 11 #[.val (.ref a), .val (.ref key), .val .null, .val (.int x), .val (.int y)] [.null, (.ref a)])) t_
    exact k_
  obtain ⟨T3, h3, X3, e3, W3, st3⟩ := putF X2 hx hZ hown (host := "") (Or.inl (hw _ (List.mem_of_getElem? (i := 17) rfl))) Via.refl e2 F_value_a E_a (Or.inr ⟨(hw _ (List.mem_of_getElem? (i := 18) rfl)), rfl, hnm⟩) (hw _ (List.mem_of_getElem? (i := 2) rfl)) (ty := (.array .byte)) (by decide) rfl rfl (g := (mkF m_ 11 #[.val (.ref a), .val (.ref key), .val .null, .val (.int x), .val (.int y)] [.null, (.ref a)])) rfl rfl (hb hby dprog_51_method_1_code_11)
  have N3 := Fr.snoc X3 N2 g_a
  replace Z0 : n0 ≤ h3.size := W3.size ▸ Z0
  replace KP := KP.wr W3 (Or.inl (List.mem_of_getElem? (i := 0) rfl))
  replace E_a := E_a.wr W3
  replace F_key_a := F_key_a.other W3 (Or.inr (slot_ne (Or.inr (hw _ (List.mem_of_getElem? (i := 16) rfl))) (Or.inr (hw _ (List.mem_of_getElem? (i := 18) rfl))) (by decide) (t := (.array .byte)) (t' := (.array .byte)) (by decide) (by decide)))
  replace F_overflowLength_a := F_overflowLength_a.other W3 (Or.inr (slot_ne (Or.inr (hw _ (List.mem_of_getElem? (i := 20) rfl))) (Or.inr (hw _ (List.mem_of_getElem? (i := 18) rfl))) (by decide) (t := .int) (t' := (.array .byte)) (by decide) (by decide)))
  replace F_overflowPage_a := F_overflowPage_a.other W3 (Or.inr (slot_ne (Or.inr (hw _ (List.mem_of_getElem? (i := 22) rfl))) (Or.inr (hw _ (List.mem_of_getElem? (i := 18) rfl))) (by decide) (t := .int) (t' := (.array .byte)) (by decide) (by decide)))
  replace F_value_a := F_value_a.same W3
  refine own_st T3 (mkF m_ 14 #[.val (.ref a), .val (.ref key), .val .null, .val (.int x), .val (.int y)] []) st3 ?_
  refine own_st T3 (mkF m_ 16 #[.val (.ref a), .val (.ref key), .val .null, .val (.int x), .val (.int y)] [(.int x), (.ref a)]) (fun t_ k_ => ?_) ?_
  · refine XS.aloadN X3.here hx rfl (hb hby dprog_51_method_1_code_14) rfl rfl ?_
    show Steps p_.tables e_ below (T3.setTop (mkF m_ 15 #[.val (.ref a), .val (.ref key), .val .null, .val (.int x), .val (.int y)] [(.ref a)])) t_
    refine XS.iloadN X3.here hx rfl (hb hby dprog_51_method_1_code_15) rfl ?_
    show Steps p_.tables e_ below (T3.setTop (mkF m_ 16 #[.val (.ref a), .val (.ref key), .val .null, .val (.int x), .val (.int y)] [(.int x), (.ref a)])) t_
    exact k_
  obtain ⟨T4, h4, X4, e4, W4, st4⟩ := putF X3 hx hZ hown (host := "") (Or.inl (hw _ (List.mem_of_getElem? (i := 19) rfl))) Via.refl e3 F_overflowLength_a E_a (Or.inr ⟨(hw _ (List.mem_of_getElem? (i := 20) rfl)), rfl, hnm⟩) (hw _ (List.mem_of_getElem? (i := 2) rfl)) (ty := .int) (by decide) rfl rfl (g := (mkF m_ 16 #[.val (.ref a), .val (.ref key), .val .null, .val (.int x), .val (.int y)] [(.int x), (.ref a)])) rfl rfl (hb hby dprog_51_method_1_code_16)
  have N4 := Fr.snoc X4 N3 g_a
  replace Z0 : n0 ≤ h4.size := W4.size ▸ Z0
  replace KP := KP.wr W4 (Or.inl (List.mem_of_getElem? (i := 0) rfl))
  replace E_a := E_a.wr W4
  replace F_key_a := F_key_a.other W4 (Or.inr (slot_ne (Or.inr (hw _ (List.mem_of_getElem? (i := 16) rfl))) (Or.inr (hw _ (List.mem_of_getElem? (i := 20) rfl))) (by decide) (t := (.array .byte)) (t' := .int) (by decide) (by decide)))
  replace F_value_a := F_value_a.other W4 (Or.inr (slot_ne (Or.inr (hw _ (List.mem_of_getElem? (i := 18) rfl))) (Or.inr (hw _ (List.mem_of_getElem? (i := 20) rfl))) (by decide) (t := (.array .byte)) (t' := .int) (by decide) (by decide)))
  replace F_overflowPage_a := F_overflowPage_a.other W4 (Or.inr (slot_ne (Or.inr (hw _ (List.mem_of_getElem? (i := 22) rfl))) (Or.inr (hw _ (List.mem_of_getElem? (i := 20) rfl))) (by decide) (t := .int) (t' := .int) (by decide) (by decide)))
  replace F_overflowLength_a := F_overflowLength_a.same W4
  refine own_st T4 (mkF m_ 19 #[.val (.ref a), .val (.ref key), .val .null, .val (.int x), .val (.int y)] []) st4 ?_
  refine own_st T4 (mkF m_ 22 #[.val (.ref a), .val (.ref key), .val .null, .val (.int x), .val (.int y)] [(.int y), (.ref a)]) (fun t_ k_ => ?_) ?_
  · refine XS.aloadN X4.here hx rfl (hb hby dprog_51_method_1_code_19) rfl rfl ?_
    show Steps p_.tables e_ below (T4.setTop (mkF m_ 20 #[.val (.ref a), .val (.ref key), .val .null, .val (.int x), .val (.int y)] [(.ref a)])) t_
    refine XS.iload X4.here hx rfl (hb hby dprog_51_method_1_code_20) rfl ?_
    show Steps p_.tables e_ below (T4.setTop (mkF m_ 22 #[.val (.ref a), .val (.ref key), .val .null, .val (.int x), .val (.int y)] [(.int y), (.ref a)])) t_
    exact k_
  obtain ⟨T5, h5, X5, e5, W5, st5⟩ := putF X4 hx hZ hown (host := "") (Or.inl (hw _ (List.mem_of_getElem? (i := 21) rfl))) Via.refl e4 F_overflowPage_a E_a (Or.inr ⟨(hw _ (List.mem_of_getElem? (i := 22) rfl)), rfl, hnm⟩) (hw _ (List.mem_of_getElem? (i := 2) rfl)) (ty := .int) (by decide) rfl rfl (g := (mkF m_ 22 #[.val (.ref a), .val (.ref key), .val .null, .val (.int x), .val (.int y)] [(.int y), (.ref a)])) rfl rfl (hb hby dprog_51_method_1_code_22)
  have N5 := Fr.snoc X5 N4 g_a
  replace Z0 : n0 ≤ h5.size := W5.size ▸ Z0
  replace KP := KP.wr W5 (Or.inl (List.mem_of_getElem? (i := 0) rfl))
  replace E_a := E_a.wr W5
  replace F_key_a := F_key_a.other W5 (Or.inr (slot_ne (Or.inr (hw _ (List.mem_of_getElem? (i := 16) rfl))) (Or.inr (hw _ (List.mem_of_getElem? (i := 22) rfl))) (by decide) (t := (.array .byte)) (t' := .int) (by decide) (by decide)))
  replace F_value_a := F_value_a.other W5 (Or.inr (slot_ne (Or.inr (hw _ (List.mem_of_getElem? (i := 18) rfl))) (Or.inr (hw _ (List.mem_of_getElem? (i := 22) rfl))) (by decide) (t := (.array .byte)) (t' := .int) (by decide) (by decide)))
  replace F_overflowLength_a := F_overflowLength_a.other W5 (Or.inr (slot_ne (Or.inr (hw _ (List.mem_of_getElem? (i := 20) rfl))) (Or.inr (hw _ (List.mem_of_getElem? (i := 22) rfl))) (by decide) (t := .int) (t' := .int) (by decide) (by decide)))
  replace F_overflowPage_a := F_overflowPage_a.same W5
  refine own_st T5 (mkF m_ 25 #[.val (.ref a), .val (.ref key), .val .null, .val (.int x), .val (.int y)] []) st5 ?_
  refine own_ret0 X5 hx hlk hret (hb hby dprog_51_method_1_code_25) (by decide) (by decide) ?_
  rw [e5]
  exact ⟨rfl, N5, KP, E_a, F_key_a, F_value_a, F_overflowLength_a, F_overflowPage_a⟩
theorem dprog_51_method_2_code_0 : decode prog_51_method_2_code 0 = .ok (.bipush 6, 2) := by decide +kernel
theorem dprog_51_method_2_code_2 : decode prog_51_method_2_code 2 = .ok (.aload_n 0, 1) := by decide +kernel
theorem dprog_51_method_2_code_3 : decode prog_51_method_2_code 3 = .ok (.getfield 7, 3) := by decide +kernel
theorem dprog_51_method_2_code_6 : decode prog_51_method_2_code 6 = .ok (.arraylength, 1) := by decide +kernel
theorem dprog_51_method_2_code_7 : decode prog_51_method_2_code 7 = .ok (.iadd, 1) := by decide +kernel
theorem dprog_51_method_2_code_8 : decode prog_51_method_2_code 8 = .ok (.aload_n 0, 1) := by decide +kernel
theorem dprog_51_method_2_code_9 : decode prog_51_method_2_code 9 = .ok (.getfield 13, 3) := by decide +kernel
theorem dprog_51_method_2_code_12 : decode prog_51_method_2_code 12 = .ok (.ifnonnull 8, 3) := by decide +kernel
theorem dprog_51_method_2_code_20 : decode prog_51_method_2_code 20 = .ok (.aload_n 0, 1) := by decide +kernel
theorem dprog_51_method_2_code_21 : decode prog_51_method_2_code 21 = .ok (.getfield 13, 3) := by decide +kernel
theorem dprog_51_method_2_code_24 : decode prog_51_method_2_code 24 = .ok (.arraylength, 1) := by decide +kernel
theorem dprog_51_method_2_code_25 : decode prog_51_method_2_code 25 = .ok (.iadd, 1) := by decide +kernel
theorem dprog_51_method_2_code_26 : decode prog_51_method_2_code 26 = .ok (.ireturn, 1) := by decide +kernel
theorem ef_rm4 (m_ : MethodId) (a : Addr) : entryFrame m_ #[(.ref a)] 1 = mkF m_ 0 #[.val (.ref a)] [] := by first | (simp [entryFrame, mkF, argsToLocals, Value.category]; done) | rfl
set_option maxRecDepth 65536 in
set_option maxHeartbeats 40000000 in
theorem rm4 (l : Launch) (Z : State) (a0 : Array Value) (hw : ∀ d ∈ tables_1, d.before a0 Z = true) (a : Addr) (key val : Addr) (k1 k2 : ClassId) (n1 n2 : Nat) (f1 f2 : Nat → Value) (z1 z2 : Int32) (h0 : Heap) (n0 : Nat) (Z0 : n0 ≤ h0.size) (F_key_a : Fld Z h0 a "com/example/varrowkeep/varrowkeep/storage/Node$LeafCell" "key" "[B" (.ref key)) (F_value_a : Fld Z h0 a "com/example/varrowkeep/varrowkeep/storage/Node$LeafCell" "value" "[B" (.ref val)) (A_key : own_A Z h0 key k1 .byte n1 f1) (hz1 : z1.toInt = (n1 : Int)) (A_val : own_A Z h0 val k2 .byte n2 f2) (hz2 : z2.toInt = (n2 : Int)) :
    own_Met l Z (⟨"com/example/varrowkeep/varrowkeep/storage/Node$LeafCell", "size", "()I"⟩ : MethodName) prog_51_method_2_code 1 (some .int) ({ frames := 0, cells := 0, slots := 0, locals := 0 } : Room) #[(.ref a)] h0 (fun v h L => v = some (.int (((6 : Int32) + z1) + z2)) ∧ Fr n0 L ∧ h = h0) := by
  refine own_body #[.val (.ref a)] (plainFor_of_name own_pn1) (fun m_ => ef_rm4 m_ a) ?_
  intro p_ e_ s_ m_ below meth c_ s₁ X0 hx hby hml hret hlk hZ hown hnm e0
  have N0 := Fr.nil n0
  show own_Out p_ e_ below s_ _ _ _ s₁ (mkF m_ 0 #[.val (.ref a)] [])
  refine own_st s₁ (mkF m_ 3 #[.val (.ref a)] [(.ref a), (.int (6 : Int32))]) (fun t_ k_ => ?_) ?_
  · refine XS.bipush X0.here hx rfl (hb hby dprog_51_method_2_code_0) ?_
    show Steps p_.tables e_ below (s₁.setTop (mkF m_ 2 #[.val (.ref a)] [(.int (6 : Int32))])) t_
    refine XS.aloadN X0.here hx rfl (hb hby dprog_51_method_2_code_2) rfl rfl ?_
    show Steps p_.tables e_ below (s₁.setTop (mkF m_ 3 #[.val (.ref a)] [(.ref a), (.int (6 : Int32))])) t_
    exact k_
  obtain ⟨T1, X1, e1, st1⟩ := getF X0 hx hZ hown (host := "") (Or.inl (hw _ (List.mem_of_getElem? (i := 15) rfl))) Via.refl e0 F_key_a (g := (mkF m_ 3 #[.val (.ref a)] [(.ref a), (.int (6 : Int32))])) rfl rfl (hb hby dprog_51_method_2_code_3)
  refine own_st T1 (mkF m_ 6 #[.val (.ref a)] [(.ref key), (.int (6 : Int32))]) st1 ?_
  refine own_st T1 (mkF m_ 9 #[.val (.ref a)] [(.ref a), (.int ((6 : Int32) + z1))]) (fun t_ k_ => ?_) ?_
  · refine own_len X1 hx hZ e1 A_key (hb hby dprog_51_method_2_code_6) z1 hz1 _ ?_
    show Steps p_.tables e_ below (T1.setTop (mkF m_ 7 #[.val (.ref a)] [(.int z1), (.int (6 : Int32))])) t_
    refine XS.iadd X1.here hx rfl (hb hby dprog_51_method_2_code_7) rfl ?_
    show Steps p_.tables e_ below (T1.setTop (mkF m_ 8 #[.val (.ref a)] [(.int ((6 : Int32) + z1))])) t_
    refine XS.aloadN X1.here hx rfl (hb hby dprog_51_method_2_code_8) rfl rfl ?_
    show Steps p_.tables e_ below (T1.setTop (mkF m_ 9 #[.val (.ref a)] [(.ref a), (.int ((6 : Int32) + z1))])) t_
    exact k_
  obtain ⟨T2, X2, e2, st2⟩ := getF X1 hx hZ hown (host := "") (Or.inl (hw _ (List.mem_of_getElem? (i := 17) rfl))) Via.refl e1 F_value_a (g := (mkF m_ 9 #[.val (.ref a)] [(.ref a), (.int ((6 : Int32) + z1))])) rfl rfl (hb hby dprog_51_method_2_code_9)
  refine own_st T2 (mkF m_ 12 #[.val (.ref a)] [(.ref val), (.int ((6 : Int32) + z1))]) st2 ?_
  refine own_st T2 (mkF m_ 21 #[.val (.ref a)] [(.ref a), (.int ((6 : Int32) + z1))]) (fun t_ k_ => ?_) ?_
  · refine XS.ifnonnullYes X2.here hx rfl (pc0 := 12) (pc' := 20) rfl (hb hby dprog_51_method_2_code_12) rfl (by decide) (by decide) ?_
    show Steps p_.tables e_ below (T2.setTop (mkF m_ 20 #[.val (.ref a)] [(.int ((6 : Int32) + z1))])) t_
    refine XS.aloadN X2.here hx rfl (hb hby dprog_51_method_2_code_20) rfl rfl ?_
    show Steps p_.tables e_ below (T2.setTop (mkF m_ 21 #[.val (.ref a)] [(.ref a), (.int ((6 : Int32) + z1))])) t_
    exact k_
  obtain ⟨T3, X3, e3, st3⟩ := getF X2 hx hZ hown (host := "") (Or.inl (hw _ (List.mem_of_getElem? (i := 17) rfl))) Via.refl e2 F_value_a (g := (mkF m_ 21 #[.val (.ref a)] [(.ref a), (.int ((6 : Int32) + z1))])) rfl rfl (hb hby dprog_51_method_2_code_21)
  refine own_st T3 (mkF m_ 24 #[.val (.ref a)] [(.ref val), (.int ((6 : Int32) + z1))]) st3 ?_
  refine own_st T3 (mkF m_ 26 #[.val (.ref a)] [(.int (((6 : Int32) + z1) + z2))]) (fun t_ k_ => ?_) ?_
  · refine own_len X3 hx hZ e3 A_val (hb hby dprog_51_method_2_code_24) z2 hz2 _ ?_
    show Steps p_.tables e_ below (T3.setTop (mkF m_ 25 #[.val (.ref a)] [(.int z2), (.int ((6 : Int32) + z1))])) t_
    refine XS.iadd X3.here hx rfl (hb hby dprog_51_method_2_code_25) rfl ?_
    show Steps p_.tables e_ below (T3.setTop (mkF m_ 26 #[.val (.ref a)] [(.int (((6 : Int32) + z1) + z2))])) t_
    exact k_
  refine own_retI X3 hx hlk hret (hb hby dprog_51_method_2_code_26) (by decide) (by decide) ?_
  rw [e3]
  exact ⟨rfl, N0, rfl⟩
theorem dprog_51_method_2_code_15 : decode prog_51_method_2_code 15 = .ok (.bipush 8, 2) := by decide +kernel
theorem dprog_51_method_2_code_17 : decode prog_51_method_2_code 17 = .ok (.goto 8, 3) := by decide +kernel
theorem ef_rm4n (m_ : MethodId) (a : Addr) : entryFrame m_ #[(.ref a)] 1 = mkF m_ 0 #[.val (.ref a)] [] := by first | (simp [entryFrame, mkF, argsToLocals, Value.category]; done) | rfl
set_option maxRecDepth 65536 in
set_option maxHeartbeats 40000000 in
theorem rm4n (l : Launch) (Z : State) (a0 : Array Value) (hw : ∀ d ∈ tables_1, d.before a0 Z = true) (a : Addr) (key : Addr) (k1 k2 : ClassId) (n1 n2 : Nat) (f1 f2 : Nat → Value) (z1 z2 : Int32) (h0 : Heap) (n0 : Nat) (Z0 : n0 ≤ h0.size) (F_key_a : Fld Z h0 a "com/example/varrowkeep/varrowkeep/storage/Node$LeafCell" "key" "[B" (.ref key)) (F_value_a : Fld Z h0 a "com/example/varrowkeep/varrowkeep/storage/Node$LeafCell" "value" "[B" .null) (A_key : own_A Z h0 key k1 .byte n1 f1) (hz1 : z1.toInt = (n1 : Int)) :
    own_Met l Z (⟨"com/example/varrowkeep/varrowkeep/storage/Node$LeafCell", "size", "()I"⟩ : MethodName) prog_51_method_2_code 1 (some .int) ({ frames := 0, cells := 0, slots := 0, locals := 0 } : Room) #[(.ref a)] h0 (fun v h L => v = some (.int (((6 : Int32) + z1) + 8)) ∧ Fr n0 L ∧ h = h0) := by
  refine own_body #[.val (.ref a)] (plainFor_of_name own_pn1) (fun m_ => ef_rm4n m_ a) ?_
  intro p_ e_ s_ m_ below meth c_ s₁ X0 hx hby hml hret hlk hZ hown hnm e0
  have N0 := Fr.nil n0
  show own_Out p_ e_ below s_ _ _ _ s₁ (mkF m_ 0 #[.val (.ref a)] [])
  refine own_st s₁ (mkF m_ 3 #[.val (.ref a)] [(.ref a), (.int (6 : Int32))]) (fun t_ k_ => ?_) ?_
  · refine XS.bipush X0.here hx rfl (hb hby dprog_51_method_2_code_0) ?_
    show Steps p_.tables e_ below (s₁.setTop (mkF m_ 2 #[.val (.ref a)] [(.int (6 : Int32))])) t_
    refine XS.aloadN X0.here hx rfl (hb hby dprog_51_method_2_code_2) rfl rfl ?_
    show Steps p_.tables e_ below (s₁.setTop (mkF m_ 3 #[.val (.ref a)] [(.ref a), (.int (6 : Int32))])) t_
    exact k_
  obtain ⟨T1, X1, e1, st1⟩ := getF X0 hx hZ hown (host := "") (Or.inl (hw _ (List.mem_of_getElem? (i := 15) rfl))) Via.refl e0 F_key_a (g := (mkF m_ 3 #[.val (.ref a)] [(.ref a), (.int (6 : Int32))])) rfl rfl (hb hby dprog_51_method_2_code_3)
  refine own_st T1 (mkF m_ 6 #[.val (.ref a)] [(.ref key), (.int (6 : Int32))]) st1 ?_
  refine own_st T1 (mkF m_ 9 #[.val (.ref a)] [(.ref a), (.int ((6 : Int32) + z1))]) (fun t_ k_ => ?_) ?_
  · refine own_len X1 hx hZ e1 A_key (hb hby dprog_51_method_2_code_6) z1 hz1 _ ?_
    show Steps p_.tables e_ below (T1.setTop (mkF m_ 7 #[.val (.ref a)] [(.int z1), (.int (6 : Int32))])) t_
    refine XS.iadd X1.here hx rfl (hb hby dprog_51_method_2_code_7) rfl ?_
    show Steps p_.tables e_ below (T1.setTop (mkF m_ 8 #[.val (.ref a)] [(.int ((6 : Int32) + z1))])) t_
    refine XS.aloadN X1.here hx rfl (hb hby dprog_51_method_2_code_8) rfl rfl ?_
    show Steps p_.tables e_ below (T1.setTop (mkF m_ 9 #[.val (.ref a)] [(.ref a), (.int ((6 : Int32) + z1))])) t_
    exact k_
  obtain ⟨T2, X2, e2, st2⟩ := getF X1 hx hZ hown (host := "") (Or.inl (hw _ (List.mem_of_getElem? (i := 17) rfl))) Via.refl e1 F_value_a (g := (mkF m_ 9 #[.val (.ref a)] [(.ref a), (.int ((6 : Int32) + z1))])) rfl rfl (hb hby dprog_51_method_2_code_9)
  refine own_st T2 (mkF m_ 12 #[.val (.ref a)] [.null, (.int ((6 : Int32) + z1))]) st2 ?_
  refine own_st T2 (mkF m_ 26 #[.val (.ref a)] [(.int (((6 : Int32) + z1) + (8 : Int32)))]) (fun t_ k_ => ?_) ?_
  · refine XS.ifnonnullNo X2.here hx rfl (hb hby dprog_51_method_2_code_12) rfl ?_
    show Steps p_.tables e_ below (T2.setTop (mkF m_ 15 #[.val (.ref a)] [(.int ((6 : Int32) + z1))])) t_
    refine XS.bipush X2.here hx rfl (hb hby dprog_51_method_2_code_15) ?_
    show Steps p_.tables e_ below (T2.setTop (mkF m_ 17 #[.val (.ref a)] [(.int (8 : Int32)), (.int ((6 : Int32) + z1))])) t_
    refine XS.goto X2.here hx rfl (pc0 := 17) (pc' := 25) rfl (hb hby dprog_51_method_2_code_17) (by decide) (by decide) ?_
    show Steps p_.tables e_ below (T2.setTop (mkF m_ 25 #[.val (.ref a)] [(.int (8 : Int32)), (.int ((6 : Int32) + z1))])) t_
    refine XS.iadd X2.here hx rfl (hb hby dprog_51_method_2_code_25) rfl ?_
    show Steps p_.tables e_ below (T2.setTop (mkF m_ 26 #[.val (.ref a)] [(.int (((6 : Int32) + z1) + (8 : Int32)))])) t_
    exact k_
  refine own_retI X2 hx hlk hret (hb hby dprog_51_method_2_code_26) (by decide) (by decide) ?_
  rw [e2]
  exact ⟨rfl, N0, rfl⟩
def own_m (x : Int32) : Int32 := (x &&& (15 : Int32))
def own_mn (x : Int32) : Nat := (own_m x).toNatClampNeg
theorem own_m0 (x : Int32) : 0 ≤ (own_m x).toInt ∧ (own_m x).toInt ≤ 15 := c_and x 15 (by decide)
theorem own_m1 (x : Int32) : (own_m x).toInt = (own_mn x : Int) := by
  have := own_m0 x; unfold own_mn; simp only [Int32.toNatClampNeg]; omega
theorem own_m3 (x : Int32) : ¬ own_m x < 0 := by
  have := own_m0 x; rw [Int32.lt_iff_toInt_lt]; have : (0 : Int32).toInt = 0 := rfl; omega
theorem own_m4 (x : Int32) : (own_m x).toNatClampNeg ≤ 15 := by
  have := own_m0 x; have := own_m1 x; unfold own_mn at this; omega
theorem own_m2 {x : Int32} (h : (0 : Int32) < own_m x) : 0 < own_mn x := by
  have := own_m1 x; rw [Int32.lt_iff_toInt_lt] at h; have : (0 : Int32).toInt = 0 := rfl; omega
theorem own_m5 {x : Int32} (h : (0 : Int32) < own_m x) : (own_m x - (1 : Int32)).toInt = ((own_mn x - 1 : Nat) : Int) := by
  have := own_m0 x; have := own_m1 x; have := own_m2 h; have := c_isub (own_m x) 1; have : (1 : Int32).toInt = 1 := rfl
  have := rng32 (own_m x - 1); omega

theorem own_pd1 : parseMethodDescriptor "([B[BII)V" = some ⟨[(.array .byte), (.array .byte), .int, .int], none⟩ := by decide +kernel
theorem own_pd2 : parseMethodDescriptor "()I" = some ⟨[], some .int⟩ := by decide +kernel
theorem ef_rm0 (m_ : MethodId) (a : Int32) (b : Int32) (flags : Int32) (ovLen : Int32) (ovPage : Int32) (fill : Int32) : entryFrame m_ #[(.int a), (.int b), (.int flags), (.int ovLen), (.int ovPage), (.int fill)] maxLocals = mkF m_ 0 #[.val (.int a), .val (.int b), .val (.int flags), .val (.int ovLen), .val (.int ovPage), .val (.int fill), .unset, .unset, .unset, .unset, .unset, .unset, .unset, .unset, .unset, .unset, .unset] [] := by first | (simp [entryFrame, mkF, argsToLocals, Value.category, maxLocals]; done) | rfl
theorem own_pn2 : plainName "com/example/varrowkeep/varrowkeep/storage/LeafCellSizePinLaw" = true := by first | (simp [plainName, overriddenIn]; done) | decide +kernel
set_option maxRecDepth 65536 in
set_option maxHeartbeats 40000000 in
theorem rm0 (l : Launch) (Z : State) (a0 : Array Value) (hw : ∀ d ∈ tables_1, d.before a0 Z = true) (a : Int32) (b : Int32) (flags : Int32) (ovLen : Int32) (ovPage : Int32) (fill : Int32) (h0 : Heap) (n0 : Nat) (Z0 : n0 ≤ h0.size)  :
    own_Met l Z x code maxLocals ret room_1 #[(.int a), (.int b), (.int flags), (.int ovLen), (.int ovPage), (.int fill)] h0 (fun v h L => v = some (.int 1) ∧ Fr n0 L) := by
  refine own_body #[.val (.int a), .val (.int b), .val (.int flags), .val (.int ovLen), .val (.int ovPage), .val (.int fill), .unset, .unset, .unset, .unset, .unset, .unset, .unset, .unset, .unset, .unset, .unset] (plainFor_of_name own_pn2) (fun m_ => ef_rm0 m_ a b flags ovLen ovPage fill) ?_
  intro p_ e_ s_ m_ below meth c_ s₁ X0 hx hby hml hret hlk hZ hown hnm e0
  have N0 := Fr.nil n0
  show own_Out p_ e_ below s_ _ _ _ s₁ (mkF m_ 0 #[.val (.int a), .val (.int b), .val (.int flags), .val (.int ovLen), .val (.int ovPage), .val (.int fill), .unset, .unset, .unset, .unset, .unset, .unset, .unset, .unset, .unset, .unset, .unset] [])
  refine own_st s₁ (mkF m_ 27 #[.val (.int a), .val (.int b), .val (.int flags), .val (.int ovLen), .val (.int ovPage), .val (.int fill), .val (.int (own_m a)), .val (.int (own_m b)), .val (.int (if (flags &&& (1 : Int32)) = (0 : Int32) then (0 : Int32) else 1)), .unset, .unset, .unset, .unset, .unset, .unset, .unset, .unset] [(.int (own_m a))]) (fun t_ k_ => ?_) ?_
  · refine XS.iloadN X0.here hx rfl (hb hby at_0) rfl ?_
    show Steps p_.tables e_ below (s₁.setTop (mkF m_ 1 #[.val (.int a), .val (.int b), .val (.int flags), .val (.int ovLen), .val (.int ovPage), .val (.int fill), .unset, .unset, .unset, .unset, .unset, .unset, .unset, .unset, .unset, .unset, .unset] [(.int a)])) t_
    refine XS.bipush X0.here hx rfl (hb hby at_1) ?_
    show Steps p_.tables e_ below (s₁.setTop (mkF m_ 3 #[.val (.int a), .val (.int b), .val (.int flags), .val (.int ovLen), .val (.int ovPage), .val (.int fill), .unset, .unset, .unset, .unset, .unset, .unset, .unset, .unset, .unset, .unset, .unset] [(.int (15 : Int32)), (.int a)])) t_
    refine XS.iand X0.here hx rfl (hb hby at_3) rfl ?_
    show Steps p_.tables e_ below (s₁.setTop (mkF m_ 4 #[.val (.int a), .val (.int b), .val (.int flags), .val (.int ovLen), .val (.int ovPage), .val (.int fill), .unset, .unset, .unset, .unset, .unset, .unset, .unset, .unset, .unset, .unset, .unset] [(.int (own_m a))])) t_
    refine XS.istore X0.here hx rfl (hb hby at_4) rfl (l' := #[.val (.int a), .val (.int b), .val (.int flags), .val (.int ovLen), .val (.int ovPage), .val (.int fill), .val (.int (own_m a)), .unset, .unset, .unset, .unset, .unset, .unset, .unset, .unset, .unset, .unset]) rfl ?_
    show Steps p_.tables e_ below (s₁.setTop (mkF m_ 6 #[.val (.int a), .val (.int b), .val (.int flags), .val (.int ovLen), .val (.int ovPage), .val (.int fill), .val (.int (own_m a)), .unset, .unset, .unset, .unset, .unset, .unset, .unset, .unset, .unset, .unset] [])) t_
    refine XS.iloadN X0.here hx rfl (hb hby at_6) rfl ?_
    show Steps p_.tables e_ below (s₁.setTop (mkF m_ 7 #[.val (.int a), .val (.int b), .val (.int flags), .val (.int ovLen), .val (.int ovPage), .val (.int fill), .val (.int (own_m a)), .unset, .unset, .unset, .unset, .unset, .unset, .unset, .unset, .unset, .unset] [(.int b)])) t_
    refine XS.bipush X0.here hx rfl (hb hby at_7) ?_
    show Steps p_.tables e_ below (s₁.setTop (mkF m_ 9 #[.val (.int a), .val (.int b), .val (.int flags), .val (.int ovLen), .val (.int ovPage), .val (.int fill), .val (.int (own_m a)), .unset, .unset, .unset, .unset, .unset, .unset, .unset, .unset, .unset, .unset] [(.int (15 : Int32)), (.int b)])) t_
    refine XS.iand X0.here hx rfl (hb hby at_9) rfl ?_
    show Steps p_.tables e_ below (s₁.setTop (mkF m_ 10 #[.val (.int a), .val (.int b), .val (.int flags), .val (.int ovLen), .val (.int ovPage), .val (.int fill), .val (.int (own_m a)), .unset, .unset, .unset, .unset, .unset, .unset, .unset, .unset, .unset, .unset] [(.int (own_m b))])) t_
    refine XS.istore X0.here hx rfl (hb hby at_10) rfl (l' := #[.val (.int a), .val (.int b), .val (.int flags), .val (.int ovLen), .val (.int ovPage), .val (.int fill), .val (.int (own_m a)), .val (.int (own_m b)), .unset, .unset, .unset, .unset, .unset, .unset, .unset, .unset, .unset]) rfl ?_
    show Steps p_.tables e_ below (s₁.setTop (mkF m_ 12 #[.val (.int a), .val (.int b), .val (.int flags), .val (.int ovLen), .val (.int ovPage), .val (.int fill), .val (.int (own_m a)), .val (.int (own_m b)), .unset, .unset, .unset, .unset, .unset, .unset, .unset, .unset, .unset] [])) t_
    refine XS.iloadN X0.here hx rfl (hb hby at_12) rfl ?_
    show Steps p_.tables e_ below (s₁.setTop (mkF m_ 13 #[.val (.int a), .val (.int b), .val (.int flags), .val (.int ovLen), .val (.int ovPage), .val (.int fill), .val (.int (own_m a)), .val (.int (own_m b)), .unset, .unset, .unset, .unset, .unset, .unset, .unset, .unset, .unset] [(.int flags)])) t_
    refine XS.iconst X0.here hx rfl (hb hby at_13) ?_
    show Steps p_.tables e_ below (s₁.setTop (mkF m_ 14 #[.val (.int a), .val (.int b), .val (.int flags), .val (.int ovLen), .val (.int ovPage), .val (.int fill), .val (.int (own_m a)), .val (.int (own_m b)), .unset, .unset, .unset, .unset, .unset, .unset, .unset, .unset, .unset] [(.int (1 : Int32)), (.int flags)])) t_
    refine XS.iand X0.here hx rfl (hb hby at_14) rfl ?_
    show Steps p_.tables e_ below (s₁.setTop (mkF m_ 15 #[.val (.int a), .val (.int b), .val (.int flags), .val (.int ovLen), .val (.int ovPage), .val (.int fill), .val (.int (own_m a)), .val (.int (own_m b)), .unset, .unset, .unset, .unset, .unset, .unset, .unset, .unset, .unset] [(.int (flags &&& (1 : Int32)))])) t_
    have jn15 : ∀ t_, Steps p_.tables e_ below (s₁.setTop (mkF m_ 23 #[.val (.int a), .val (.int b), .val (.int flags), .val (.int ovLen), .val (.int ovPage), .val (.int fill), .val (.int (own_m a)), .val (.int (own_m b)), .unset, .unset, .unset, .unset, .unset, .unset, .unset, .unset, .unset] [(.int (if (flags &&& (1 : Int32)) = (0 : Int32) then (0 : Int32) else 1))])) t_ → Steps p_.tables e_ below (s₁.setTop (mkF m_ 15 #[.val (.int a), .val (.int b), .val (.int flags), .val (.int ovLen), .val (.int ovPage), .val (.int fill), .val (.int (own_m a)), .val (.int (own_m b)), .unset, .unset, .unset, .unset, .unset, .unset, .unset, .unset, .unset] [(.int (flags &&& (1 : Int32)))])) t_ := by
      intro t_ k_
      by_cases hc15 : (flags &&& (1 : Int32)) = (0 : Int32)
      · refine XS.ifYes X0.here hx rfl (pc0 := 15) (pc' := 22) rfl (hb hby at_15) rfl ((if0 _ _).trans (teq hc15).1) (by decide) (by decide) ?_
        show Steps p_.tables e_ below (s₁.setTop (mkF m_ 22 #[.val (.int a), .val (.int b), .val (.int flags), .val (.int ovLen), .val (.int ovPage), .val (.int fill), .val (.int (own_m a)), .val (.int (own_m b)), .unset, .unset, .unset, .unset, .unset, .unset, .unset, .unset, .unset] [])) t_
        refine XS.iconst X0.here hx rfl (hb hby at_22) ?_
        show Steps p_.tables e_ below (s₁.setTop (mkF m_ 23 #[.val (.int a), .val (.int b), .val (.int flags), .val (.int ovLen), .val (.int ovPage), .val (.int fill), .val (.int (own_m a)), .val (.int (own_m b)), .unset, .unset, .unset, .unset, .unset, .unset, .unset, .unset, .unset] [(.int (0 : Int32))])) t_
        simp only [if_pos hc15] at k_
        exact k_
      · refine XS.ifNo X0.here hx rfl (hb hby at_15) rfl ((if0 _ _).trans (feq hc15).1) ?_
        show Steps p_.tables e_ below (s₁.setTop (mkF m_ 18 #[.val (.int a), .val (.int b), .val (.int flags), .val (.int ovLen), .val (.int ovPage), .val (.int fill), .val (.int (own_m a)), .val (.int (own_m b)), .unset, .unset, .unset, .unset, .unset, .unset, .unset, .unset, .unset] [])) t_
        refine XS.iconst X0.here hx rfl (hb hby at_18) ?_
        show Steps p_.tables e_ below (s₁.setTop (mkF m_ 19 #[.val (.int a), .val (.int b), .val (.int flags), .val (.int ovLen), .val (.int ovPage), .val (.int fill), .val (.int (own_m a)), .val (.int (own_m b)), .unset, .unset, .unset, .unset, .unset, .unset, .unset, .unset, .unset] [(.int (1 : Int32))])) t_
        refine XS.goto X0.here hx rfl (pc0 := 19) (pc' := 23) rfl (hb hby at_19) (by decide) (by decide) ?_
        show Steps p_.tables e_ below (s₁.setTop (mkF m_ 23 #[.val (.int a), .val (.int b), .val (.int flags), .val (.int ovLen), .val (.int ovPage), .val (.int fill), .val (.int (own_m a)), .val (.int (own_m b)), .unset, .unset, .unset, .unset, .unset, .unset, .unset, .unset, .unset] [(.int (1 : Int32))])) t_
        simp only [if_neg hc15] at k_
        exact k_
    refine jn15 _ ?_
    show Steps p_.tables e_ below (s₁.setTop (mkF m_ 23 #[.val (.int a), .val (.int b), .val (.int flags), .val (.int ovLen), .val (.int ovPage), .val (.int fill), .val (.int (own_m a)), .val (.int (own_m b)), .unset, .unset, .unset, .unset, .unset, .unset, .unset, .unset, .unset] [(.int (if (flags &&& (1 : Int32)) = (0 : Int32) then (0 : Int32) else 1))])) t_
    refine XS.istore X0.here hx rfl (hb hby at_23) rfl (l' := #[.val (.int a), .val (.int b), .val (.int flags), .val (.int ovLen), .val (.int ovPage), .val (.int fill), .val (.int (own_m a)), .val (.int (own_m b)), .val (.int (if (flags &&& (1 : Int32)) = (0 : Int32) then (0 : Int32) else 1)), .unset, .unset, .unset, .unset, .unset, .unset, .unset, .unset]) rfl ?_
    show Steps p_.tables e_ below (s₁.setTop (mkF m_ 25 #[.val (.int a), .val (.int b), .val (.int flags), .val (.int ovLen), .val (.int ovPage), .val (.int fill), .val (.int (own_m a)), .val (.int (own_m b)), .val (.int (if (flags &&& (1 : Int32)) = (0 : Int32) then (0 : Int32) else 1)), .unset, .unset, .unset, .unset, .unset, .unset, .unset, .unset] [])) t_
    refine XS.iload X0.here hx rfl (hb hby at_25) rfl ?_
    show Steps p_.tables e_ below (s₁.setTop (mkF m_ 27 #[.val (.int a), .val (.int b), .val (.int flags), .val (.int ovLen), .val (.int ovPage), .val (.int fill), .val (.int (own_m a)), .val (.int (own_m b)), .val (.int (if (flags &&& (1 : Int32)) = (0 : Int32) then (0 : Int32) else 1)), .unset, .unset, .unset, .unset, .unset, .unset, .unset, .unset] [(.int (own_m a))])) t_
    exact k_
  obtain ⟨T1, h1, k1, X1, e1, E1, A1, st1⟩ := newP X0 hx hZ (hw _ (List.mem_of_getElem? (i := 0) rfl)) e0 (g := (mkF m_ 27 #[.val (.int a), .val (.int b), .val (.int flags), .val (.int ovLen), .val (.int ovPage), .val (.int fill), .val (.int (own_m a)), .val (.int (own_m b)), .val (.int (if (flags &&& (1 : Int32)) = (0 : Int32) then (0 : Int32) else 1)), .unset, .unset, .unset, .unset, .unset, .unset, .unset, .unset] [(.int (own_m a))])) rfl (hb hby at_27) rfl (own_m3 a) (cap := 15) (own_m4 a) (by decide) (by decide) (by decide)
  obtain ⟨b1, g1⟩ : ∃ z, z = h0.size := ⟨_, rfl⟩
  rw [← g1] at A1 st1
  have g_b1 : n0 ≤ b1 := g1 ▸ Z0
  replace Z0 : n0 ≤ h1.size := Nat.le_trans Z0 E1.1
  have A_b1 : own_A Z h1 b1 k1 .byte (own_mn a) (fun _ => .int 0) := own_A.newI A1 (own_m3 a) (own_mn a) rfl rfl
  refine own_st T1 (mkF m_ 29 #[.val (.int a), .val (.int b), .val (.int flags), .val (.int ovLen), .val (.int ovPage), .val (.int fill), .val (.int (own_m a)), .val (.int (own_m b)), .val (.int (if (flags &&& (1 : Int32)) = (0 : Int32) then (0 : Int32) else 1)), .unset, .unset, .unset, .unset, .unset, .unset, .unset, .unset] [(.ref b1)]) st1 ?_
  refine own_st T1 (mkF m_ 33 #[.val (.int a), .val (.int b), .val (.int flags), .val (.int ovLen), .val (.int ovPage), .val (.int fill), .val (.int (own_m a)), .val (.int (own_m b)), .val (.int (if (flags &&& (1 : Int32)) = (0 : Int32) then (0 : Int32) else 1)), .val (.ref b1), .unset, .unset, .unset, .unset, .unset, .unset, .unset] [(.int (own_m a))]) (fun t_ k_ => ?_) ?_
  · refine XS.astore X1.here hx rfl (hb hby at_29) rfl rfl (l' := #[.val (.int a), .val (.int b), .val (.int flags), .val (.int ovLen), .val (.int ovPage), .val (.int fill), .val (.int (own_m a)), .val (.int (own_m b)), .val (.int (if (flags &&& (1 : Int32)) = (0 : Int32) then (0 : Int32) else 1)), .val (.ref b1), .unset, .unset, .unset, .unset, .unset, .unset, .unset]) rfl ?_
    show Steps p_.tables e_ below (T1.setTop (mkF m_ 31 #[.val (.int a), .val (.int b), .val (.int flags), .val (.int ovLen), .val (.int ovPage), .val (.int fill), .val (.int (own_m a)), .val (.int (own_m b)), .val (.int (if (flags &&& (1 : Int32)) = (0 : Int32) then (0 : Int32) else 1)), .val (.ref b1), .unset, .unset, .unset, .unset, .unset, .unset, .unset] [])) t_
    refine XS.iload X1.here hx rfl (hb hby at_31) rfl ?_
    show Steps p_.tables e_ below (T1.setTop (mkF m_ 33 #[.val (.int a), .val (.int b), .val (.int flags), .val (.int ovLen), .val (.int ovPage), .val (.int fill), .val (.int (own_m a)), .val (.int (own_m b)), .val (.int (if (flags &&& (1 : Int32)) = (0 : Int32) then (0 : Int32) else 1)), .val (.ref b1), .unset, .unset, .unset, .unset, .unset, .unset, .unset] [(.int (own_m a))])) t_
    exact k_
  by_cases hc33 : (0 : Int32) < (own_m a)
  · refine own_st T1 (mkF m_ 36 #[.val (.int a), .val (.int b), .val (.int flags), .val (.int ovLen), .val (.int ovPage), .val (.int fill), .val (.int (own_m a)), .val (.int (own_m b)), .val (.int (if (flags &&& (1 : Int32)) = (0 : Int32) then (0 : Int32) else 1)), .val (.ref b1), .unset, .unset, .unset, .unset, .unset, .unset, .unset] []) (fun t_ k_ => XS.ifNo X1.here hx rfl (hb hby at_33) rfl ((if0 _ _).trans (tlt hc33).2.2.2) k_) ?_
    refine own_st T1 (mkF m_ 42 #[.val (.int a), .val (.int b), .val (.int flags), .val (.int ovLen), .val (.int ovPage), .val (.int fill), .val (.int (own_m a)), .val (.int (own_m b)), .val (.int (if (flags &&& (1 : Int32)) = (0 : Int32) then (0 : Int32) else 1)), .val (.ref b1), .unset, .unset, .unset, .unset, .unset, .unset, .unset] [(.int (fill.toInt8.toInt32)), (.int (0 : Int32)), (.ref b1)]) (fun t_ k_ => ?_) ?_
    · refine XS.aload X1.here hx rfl (hb hby at_36) rfl rfl ?_
      show Steps p_.tables e_ below (T1.setTop (mkF m_ 38 #[.val (.int a), .val (.int b), .val (.int flags), .val (.int ovLen), .val (.int ovPage), .val (.int fill), .val (.int (own_m a)), .val (.int (own_m b)), .val (.int (if (flags &&& (1 : Int32)) = (0 : Int32) then (0 : Int32) else 1)), .val (.ref b1), .unset, .unset, .unset, .unset, .unset, .unset, .unset] [(.ref b1)])) t_
      refine XS.iconst X1.here hx rfl (hb hby at_38) ?_
      show Steps p_.tables e_ below (T1.setTop (mkF m_ 39 #[.val (.int a), .val (.int b), .val (.int flags), .val (.int ovLen), .val (.int ovPage), .val (.int fill), .val (.int (own_m a)), .val (.int (own_m b)), .val (.int (if (flags &&& (1 : Int32)) = (0 : Int32) then (0 : Int32) else 1)), .val (.ref b1), .unset, .unset, .unset, .unset, .unset, .unset, .unset] [(.int (0 : Int32)), (.ref b1)])) t_
      refine XS.iload X1.here hx rfl (hb hby at_39) rfl ?_
      show Steps p_.tables e_ below (T1.setTop (mkF m_ 41 #[.val (.int a), .val (.int b), .val (.int flags), .val (.int ovLen), .val (.int ovPage), .val (.int fill), .val (.int (own_m a)), .val (.int (own_m b)), .val (.int (if (flags &&& (1 : Int32)) = (0 : Int32) then (0 : Int32) else 1)), .val (.ref b1), .unset, .unset, .unset, .unset, .unset, .unset, .unset] [(.int fill), (.int (0 : Int32)), (.ref b1)])) t_
      refine XS.i2b X1.here hx rfl (hb hby at_41) rfl ?_
      show Steps p_.tables e_ below (T1.setTop (mkF m_ 42 #[.val (.int a), .val (.int b), .val (.int flags), .val (.int ovLen), .val (.int ovPage), .val (.int fill), .val (.int (own_m a)), .val (.int (own_m b)), .val (.int (if (flags &&& (1 : Int32)) = (0 : Int32) then (0 : Int32) else 1)), .val (.ref b1), .unset, .unset, .unset, .unset, .unset, .unset, .unset] [(.int (fill.toInt8.toInt32)), (.int (0 : Int32)), (.ref b1)])) t_
      exact k_
    obtain ⟨T2, h2, X2, e2, W2, st2⟩ := own_stB X1 hx hZ e1 A_b1 (fill.toInt8.toInt32) (own_nb _) 0 (by decide) (own_m2 hc33) (j := (0 : Int32)) (x := (fill.toInt8.toInt32)) (Ls := #[.val (.int a), .val (.int b), .val (.int flags), .val (.int ovLen), .val (.int ovPage), .val (.int fill), .val (.int (own_m a)), .val (.int (own_m b)), .val (.int (if (flags &&& (1 : Int32)) = (0 : Int32) then (0 : Int32) else 1)), .val (.ref b1), .unset, .unset, .unset, .unset, .unset, .unset, .unset]) (rest := []) (hb hby at_42)
    have N2 := Fr.snoc X2 N0 g_b1
    replace Z0 : n0 ≤ h2.size := W2.size ▸ Z0
    replace A_b1 : own_A Z h2 b1 k1 .byte (own_mn a) (fun x => .int (if x = 0 then (fill.toInt8.toInt32) else (0 : Int32))) := A_b1.setI (own_m2 hc33) W2
    refine own_st T2 (mkF m_ 43 #[.val (.int a), .val (.int b), .val (.int flags), .val (.int ovLen), .val (.int ovPage), .val (.int fill), .val (.int (own_m a)), .val (.int (own_m b)), .val (.int (if (flags &&& (1 : Int32)) = (0 : Int32) then (0 : Int32) else 1)), .val (.ref b1), .unset, .unset, .unset, .unset, .unset, .unset, .unset] []) st2 ?_
    refine own_st T2 (mkF m_ 48 #[.val (.int a), .val (.int b), .val (.int flags), .val (.int ovLen), .val (.int ovPage), .val (.int fill), .val (.int (own_m a)), .val (.int (own_m b)), .val (.int (if (flags &&& (1 : Int32)) = (0 : Int32) then (0 : Int32) else 1)), .val (.ref b1), .val .null, .unset, .unset, .unset, .unset, .unset, .unset] [(.int (if (flags &&& (1 : Int32)) = (0 : Int32) then (0 : Int32) else 1))]) (fun t_ k_ => ?_) ?_
    · refine XS.aconstNull X2.here hx rfl (hb hby at_43) ?_
      show Steps p_.tables e_ below (T2.setTop (mkF m_ 44 #[.val (.int a), .val (.int b), .val (.int flags), .val (.int ovLen), .val (.int ovPage), .val (.int fill), .val (.int (own_m a)), .val (.int (own_m b)), .val (.int (if (flags &&& (1 : Int32)) = (0 : Int32) then (0 : Int32) else 1)), .val (.ref b1), .unset, .unset, .unset, .unset, .unset, .unset, .unset] [.null])) t_
      refine XS.astore X2.here hx rfl (hb hby at_44) rfl rfl (l' := #[.val (.int a), .val (.int b), .val (.int flags), .val (.int ovLen), .val (.int ovPage), .val (.int fill), .val (.int (own_m a)), .val (.int (own_m b)), .val (.int (if (flags &&& (1 : Int32)) = (0 : Int32) then (0 : Int32) else 1)), .val (.ref b1), .val .null, .unset, .unset, .unset, .unset, .unset, .unset]) rfl ?_
      show Steps p_.tables e_ below (T2.setTop (mkF m_ 46 #[.val (.int a), .val (.int b), .val (.int flags), .val (.int ovLen), .val (.int ovPage), .val (.int fill), .val (.int (own_m a)), .val (.int (own_m b)), .val (.int (if (flags &&& (1 : Int32)) = (0 : Int32) then (0 : Int32) else 1)), .val (.ref b1), .val .null, .unset, .unset, .unset, .unset, .unset, .unset] [])) t_
      refine XS.iload X2.here hx rfl (hb hby at_46) rfl ?_
      show Steps p_.tables e_ below (T2.setTop (mkF m_ 48 #[.val (.int a), .val (.int b), .val (.int flags), .val (.int ovLen), .val (.int ovPage), .val (.int fill), .val (.int (own_m a)), .val (.int (own_m b)), .val (.int (if (flags &&& (1 : Int32)) = (0 : Int32) then (0 : Int32) else 1)), .val (.ref b1), .val .null, .unset, .unset, .unset, .unset, .unset, .unset] [(.int (if (flags &&& (1 : Int32)) = (0 : Int32) then (0 : Int32) else 1))])) t_
      exact k_
    by_cases hc48 : (flags &&& (1 : Int32)) = (0 : Int32)
    · refine own_st T2 (mkF m_ 51 #[.val (.int a), .val (.int b), .val (.int flags), .val (.int ovLen), .val (.int ovPage), .val (.int fill), .val (.int (own_m a)), .val (.int (own_m b)), .val (.int (if (flags &&& (1 : Int32)) = (0 : Int32) then (0 : Int32) else 1)), .val (.ref b1), .val .null, .unset, .unset, .unset, .unset, .unset, .unset] []) (fun t_ k_ => XS.ifNo X2.here hx rfl (hb hby at_48) rfl ((if0 _ _).trans (teq (own_nt hc48)).2) k_) ?_
      refine own_st T2 (mkF m_ 53 #[.val (.int a), .val (.int b), .val (.int flags), .val (.int ovLen), .val (.int ovPage), .val (.int fill), .val (.int (own_m a)), .val (.int (own_m b)), .val (.int (if (flags &&& (1 : Int32)) = (0 : Int32) then (0 : Int32) else 1)), .val (.ref b1), .val .null, .unset, .unset, .unset, .unset, .unset, .unset] [(.int (own_m b))]) (fun t_ k_ => ?_) ?_
      · refine XS.iload X2.here hx rfl (hb hby at_51) rfl ?_
        show Steps p_.tables e_ below (T2.setTop (mkF m_ 53 #[.val (.int a), .val (.int b), .val (.int flags), .val (.int ovLen), .val (.int ovPage), .val (.int fill), .val (.int (own_m a)), .val (.int (own_m b)), .val (.int (if (flags &&& (1 : Int32)) = (0 : Int32) then (0 : Int32) else 1)), .val (.ref b1), .val .null, .unset, .unset, .unset, .unset, .unset, .unset] [(.int (own_m b))])) t_
        exact k_
      obtain ⟨T3, h3, k3, X3, e3, E3, A3, st3⟩ := newP X2 hx hZ (hw _ (List.mem_of_getElem? (i := 0) rfl)) e2 (g := (mkF m_ 53 #[.val (.int a), .val (.int b), .val (.int flags), .val (.int ovLen), .val (.int ovPage), .val (.int fill), .val (.int (own_m a)), .val (.int (own_m b)), .val (.int (if (flags &&& (1 : Int32)) = (0 : Int32) then (0 : Int32) else 1)), .val (.ref b1), .val .null, .unset, .unset, .unset, .unset, .unset, .unset] [(.int (own_m b))])) rfl (hb hby at_53) rfl (own_m3 b) (cap := 15) (own_m4 b) (by decide) (by decide) (by decide)
      obtain ⟨b3, g3⟩ : ∃ z, z = h2.size := ⟨_, rfl⟩
      rw [← g3] at A3 st3
      have g_b3 : n0 ≤ b3 := g3 ▸ Z0
      have ne_b1_b3 : b1 ≠ b3 := Nat.ne_of_lt (Nat.lt_of_lt_of_le A_b1.lt (Nat.le_of_eq g3.symm))
      replace A_b1 := A_b1.ext E3
      replace Z0 : n0 ≤ h3.size := Nat.le_trans Z0 E3.1
      have A_b3 : own_A Z h3 b3 k3 .byte (own_mn b) (fun _ => .int 0) := own_A.newI A3 (own_m3 b) (own_mn b) rfl rfl
      refine own_st T3 (mkF m_ 55 #[.val (.int a), .val (.int b), .val (.int flags), .val (.int ovLen), .val (.int ovPage), .val (.int fill), .val (.int (own_m a)), .val (.int (own_m b)), .val (.int (if (flags &&& (1 : Int32)) = (0 : Int32) then (0 : Int32) else 1)), .val (.ref b1), .val .null, .unset, .unset, .unset, .unset, .unset, .unset] [(.ref b3)]) st3 ?_
      refine own_st T3 (mkF m_ 59 #[.val (.int a), .val (.int b), .val (.int flags), .val (.int ovLen), .val (.int ovPage), .val (.int fill), .val (.int (own_m a)), .val (.int (own_m b)), .val (.int (if (flags &&& (1 : Int32)) = (0 : Int32) then (0 : Int32) else 1)), .val (.ref b1), .val (.ref b3), .unset, .unset, .unset, .unset, .unset, .unset] [(.int (own_m b))]) (fun t_ k_ => ?_) ?_
      · refine XS.astore X3.here hx rfl (hb hby at_55) rfl rfl (l' := #[.val (.int a), .val (.int b), .val (.int flags), .val (.int ovLen), .val (.int ovPage), .val (.int fill), .val (.int (own_m a)), .val (.int (own_m b)), .val (.int (if (flags &&& (1 : Int32)) = (0 : Int32) then (0 : Int32) else 1)), .val (.ref b1), .val (.ref b3), .unset, .unset, .unset, .unset, .unset, .unset]) rfl ?_
        show Steps p_.tables e_ below (T3.setTop (mkF m_ 57 #[.val (.int a), .val (.int b), .val (.int flags), .val (.int ovLen), .val (.int ovPage), .val (.int fill), .val (.int (own_m a)), .val (.int (own_m b)), .val (.int (if (flags &&& (1 : Int32)) = (0 : Int32) then (0 : Int32) else 1)), .val (.ref b1), .val (.ref b3), .unset, .unset, .unset, .unset, .unset, .unset] [])) t_
        refine XS.iload X3.here hx rfl (hb hby at_57) rfl ?_
        show Steps p_.tables e_ below (T3.setTop (mkF m_ 59 #[.val (.int a), .val (.int b), .val (.int flags), .val (.int ovLen), .val (.int ovPage), .val (.int fill), .val (.int (own_m a)), .val (.int (own_m b)), .val (.int (if (flags &&& (1 : Int32)) = (0 : Int32) then (0 : Int32) else 1)), .val (.ref b1), .val (.ref b3), .unset, .unset, .unset, .unset, .unset, .unset] [(.int (own_m b))])) t_
        exact k_
      by_cases hc59 : (0 : Int32) < (own_m b)
      · refine own_st T3 (mkF m_ 62 #[.val (.int a), .val (.int b), .val (.int flags), .val (.int ovLen), .val (.int ovPage), .val (.int fill), .val (.int (own_m a)), .val (.int (own_m b)), .val (.int (if (flags &&& (1 : Int32)) = (0 : Int32) then (0 : Int32) else 1)), .val (.ref b1), .val (.ref b3), .unset, .unset, .unset, .unset, .unset, .unset] []) (fun t_ k_ => XS.ifNo X3.here hx rfl (hb hby at_59) rfl ((if0 _ _).trans (tlt hc59).2.2.2) k_) ?_
        refine own_st T3 (mkF m_ 74 #[.val (.int a), .val (.int b), .val (.int flags), .val (.int ovLen), .val (.int ovPage), .val (.int fill), .val (.int (own_m a)), .val (.int (own_m b)), .val (.int (if (flags &&& (1 : Int32)) = (0 : Int32) then (0 : Int32) else 1)), .val (.ref b1), .val (.ref b3), .unset, .unset, .unset, .unset, .unset, .unset] [(.int ((fill >>> ((8 : Int32) &&& 31)).toInt8.toInt32)), (.int ((own_m b) - (1 : Int32))), (.ref b3)]) (fun t_ k_ => ?_) ?_
        · refine XS.aload X3.here hx rfl (hb hby at_62) rfl rfl ?_
          show Steps p_.tables e_ below (T3.setTop (mkF m_ 64 #[.val (.int a), .val (.int b), .val (.int flags), .val (.int ovLen), .val (.int ovPage), .val (.int fill), .val (.int (own_m a)), .val (.int (own_m b)), .val (.int (if (flags &&& (1 : Int32)) = (0 : Int32) then (0 : Int32) else 1)), .val (.ref b1), .val (.ref b3), .unset, .unset, .unset, .unset, .unset, .unset] [(.ref b3)])) t_
          refine XS.iload X3.here hx rfl (hb hby at_64) rfl ?_
          show Steps p_.tables e_ below (T3.setTop (mkF m_ 66 #[.val (.int a), .val (.int b), .val (.int flags), .val (.int ovLen), .val (.int ovPage), .val (.int fill), .val (.int (own_m a)), .val (.int (own_m b)), .val (.int (if (flags &&& (1 : Int32)) = (0 : Int32) then (0 : Int32) else 1)), .val (.ref b1), .val (.ref b3), .unset, .unset, .unset, .unset, .unset, .unset] [(.int (own_m b)), (.ref b3)])) t_
          refine XS.iconst X3.here hx rfl (hb hby at_66) ?_
          show Steps p_.tables e_ below (T3.setTop (mkF m_ 67 #[.val (.int a), .val (.int b), .val (.int flags), .val (.int ovLen), .val (.int ovPage), .val (.int fill), .val (.int (own_m a)), .val (.int (own_m b)), .val (.int (if (flags &&& (1 : Int32)) = (0 : Int32) then (0 : Int32) else 1)), .val (.ref b1), .val (.ref b3), .unset, .unset, .unset, .unset, .unset, .unset] [(.int (1 : Int32)), (.int (own_m b)), (.ref b3)])) t_
          refine XS.isub X3.here hx rfl (hb hby at_67) rfl ?_
          show Steps p_.tables e_ below (T3.setTop (mkF m_ 68 #[.val (.int a), .val (.int b), .val (.int flags), .val (.int ovLen), .val (.int ovPage), .val (.int fill), .val (.int (own_m a)), .val (.int (own_m b)), .val (.int (if (flags &&& (1 : Int32)) = (0 : Int32) then (0 : Int32) else 1)), .val (.ref b1), .val (.ref b3), .unset, .unset, .unset, .unset, .unset, .unset] [(.int ((own_m b) - (1 : Int32))), (.ref b3)])) t_
          refine XS.iload X3.here hx rfl (hb hby at_68) rfl ?_
          show Steps p_.tables e_ below (T3.setTop (mkF m_ 70 #[.val (.int a), .val (.int b), .val (.int flags), .val (.int ovLen), .val (.int ovPage), .val (.int fill), .val (.int (own_m a)), .val (.int (own_m b)), .val (.int (if (flags &&& (1 : Int32)) = (0 : Int32) then (0 : Int32) else 1)), .val (.ref b1), .val (.ref b3), .unset, .unset, .unset, .unset, .unset, .unset] [(.int fill), (.int ((own_m b) - (1 : Int32))), (.ref b3)])) t_
          refine XS.bipush X3.here hx rfl (hb hby at_70) ?_
          show Steps p_.tables e_ below (T3.setTop (mkF m_ 72 #[.val (.int a), .val (.int b), .val (.int flags), .val (.int ovLen), .val (.int ovPage), .val (.int fill), .val (.int (own_m a)), .val (.int (own_m b)), .val (.int (if (flags &&& (1 : Int32)) = (0 : Int32) then (0 : Int32) else 1)), .val (.ref b1), .val (.ref b3), .unset, .unset, .unset, .unset, .unset, .unset] [(.int (8 : Int32)), (.int fill), (.int ((own_m b) - (1 : Int32))), (.ref b3)])) t_
          refine XS.ishr X3.here hx rfl (hb hby at_72) rfl ?_
          show Steps p_.tables e_ below (T3.setTop (mkF m_ 73 #[.val (.int a), .val (.int b), .val (.int flags), .val (.int ovLen), .val (.int ovPage), .val (.int fill), .val (.int (own_m a)), .val (.int (own_m b)), .val (.int (if (flags &&& (1 : Int32)) = (0 : Int32) then (0 : Int32) else 1)), .val (.ref b1), .val (.ref b3), .unset, .unset, .unset, .unset, .unset, .unset] [(.int (fill >>> ((8 : Int32) &&& 31))), (.int ((own_m b) - (1 : Int32))), (.ref b3)])) t_
          refine XS.i2b X3.here hx rfl (hb hby at_73) rfl ?_
          show Steps p_.tables e_ below (T3.setTop (mkF m_ 74 #[.val (.int a), .val (.int b), .val (.int flags), .val (.int ovLen), .val (.int ovPage), .val (.int fill), .val (.int (own_m a)), .val (.int (own_m b)), .val (.int (if (flags &&& (1 : Int32)) = (0 : Int32) then (0 : Int32) else 1)), .val (.ref b1), .val (.ref b3), .unset, .unset, .unset, .unset, .unset, .unset] [(.int ((fill >>> ((8 : Int32) &&& 31)).toInt8.toInt32)), (.int ((own_m b) - (1 : Int32))), (.ref b3)])) t_
          exact k_
        obtain ⟨T4, h4, X4, e4, W4, st4⟩ := own_stB X3 hx hZ e3 A_b3 ((fill >>> ((8 : Int32) &&& 31)).toInt8.toInt32) (own_nb _) (own_mn b - 1) (own_m5 hc59) (by have := own_m2 hc59; omega) (j := ((own_m b) - (1 : Int32))) (x := ((fill >>> ((8 : Int32) &&& 31)).toInt8.toInt32)) (Ls := #[.val (.int a), .val (.int b), .val (.int flags), .val (.int ovLen), .val (.int ovPage), .val (.int fill), .val (.int (own_m a)), .val (.int (own_m b)), .val (.int (if (flags &&& (1 : Int32)) = (0 : Int32) then (0 : Int32) else 1)), .val (.ref b1), .val (.ref b3), .unset, .unset, .unset, .unset, .unset, .unset]) (rest := []) (hb hby at_74)
        have N4 := Fr.snoc X4 N2 g_b3
        replace Z0 : n0 ≤ h4.size := W4.size ▸ Z0
        replace A_b1 := A_b1.other W4 ne_b1_b3
        replace A_b3 : own_A Z h4 b3 k3 .byte (own_mn b) (fun x => .int (if x = (own_mn b - 1) then ((fill >>> ((8 : Int32) &&& 31)).toInt8.toInt32) else (0 : Int32))) := A_b3.setI (by have := own_m2 hc59; omega) W4
        refine own_st T4 (mkF m_ 75 #[.val (.int a), .val (.int b), .val (.int flags), .val (.int ovLen), .val (.int ovPage), .val (.int fill), .val (.int (own_m a)), .val (.int (own_m b)), .val (.int (if (flags &&& (1 : Int32)) = (0 : Int32) then (0 : Int32) else 1)), .val (.ref b1), .val (.ref b3), .unset, .unset, .unset, .unset, .unset, .unset] []) st4 ?_
        obtain ⟨T5, h5, X5, e5, E5, A5, D5, -, st5⟩ := newO X4 hx hZ hown (hw _ (List.mem_of_getElem? (i := 1) rfl)) (hw _ (List.mem_of_getElem? (i := 2) rfl)) (hw _ (List.mem_of_getElem? (i := 3) rfl)) e4 (g := (mkF m_ 75 #[.val (.int a), .val (.int b), .val (.int flags), .val (.int ovLen), .val (.int ovPage), .val (.int fill), .val (.int (own_m a)), .val (.int (own_m b)), .val (.int (if (flags &&& (1 : Int32)) = (0 : Int32) then (0 : Int32) else 1)), .val (.ref b1), .val (.ref b3), .unset, .unset, .unset, .unset, .unset, .unset] [])) rfl (hb hby at_75) (by decide) (by decide)
        obtain ⟨b5, g5⟩ : ∃ z, z = h4.size := ⟨_, rfl⟩
        rw [← g5] at A5 D5 st5
        have g_b5 : n0 ≤ b5 := g5 ▸ Z0
        have ne_b1_b5 : b1 ≠ b5 := Nat.ne_of_lt (Nat.lt_of_lt_of_le A_b1.lt (Nat.le_of_eq g5.symm))
        have ne_b3_b5 : b3 ≠ b5 := Nat.ne_of_lt (Nat.lt_of_lt_of_le A_b3.lt (Nat.le_of_eq g5.symm))
        replace A_b1 := A_b1.ext E5
        replace A_b3 := A_b3.ext E5
        replace Z0 : n0 ≤ h5.size := Nat.le_trans Z0 E5.1
        have F_key_b5 : Fld Z h5 b5 "com/example/varrowkeep/varrowkeep/storage/Node$LeafCell" "key" "[B" .null := D5 (Or.inr (hw _ (List.mem_of_getElem? (i := 16) rfl))) (ty := (.array .byte)) (by decide)
        have F_value_b5 : Fld Z h5 b5 "com/example/varrowkeep/varrowkeep/storage/Node$LeafCell" "value" "[B" .null := D5 (Or.inr (hw _ (List.mem_of_getElem? (i := 18) rfl))) (ty := (.array .byte)) (by decide)
        have F_overflowLength_b5 : Fld Z h5 b5 "com/example/varrowkeep/varrowkeep/storage/Node$LeafCell" "overflowLength" "I" (.int (0 : Int32)) := D5 (Or.inr (hw _ (List.mem_of_getElem? (i := 20) rfl))) (ty := .int) (by decide)
        have F_overflowPage_b5 : Fld Z h5 b5 "com/example/varrowkeep/varrowkeep/storage/Node$LeafCell" "overflowPage" "I" (.int (0 : Int32)) := D5 (Or.inr (hw _ (List.mem_of_getElem? (i := 22) rfl))) (ty := .int) (by decide)
        have E_b5 := A5
        refine own_st T5 (mkF m_ 78 #[.val (.int a), .val (.int b), .val (.int flags), .val (.int ovLen), .val (.int ovPage), .val (.int fill), .val (.int (own_m a)), .val (.int (own_m b)), .val (.int (if (flags &&& (1 : Int32)) = (0 : Int32) then (0 : Int32) else 1)), .val (.ref b1), .val (.ref b3), .unset, .unset, .unset, .unset, .unset, .unset] [(.ref b5)]) st5 ?_
        refine own_st T5 (mkF m_ 86 #[.val (.int a), .val (.int b), .val (.int flags), .val (.int ovLen), .val (.int ovPage), .val (.int fill), .val (.int (own_m a)), .val (.int (own_m b)), .val (.int (if (flags &&& (1 : Int32)) = (0 : Int32) then (0 : Int32) else 1)), .val (.ref b1), .val (.ref b3), .unset, .unset, .unset, .unset, .unset, .unset] [(.int ovPage), (.int ovLen), (.ref b3), (.ref b1), (.ref b5), (.ref b5)]) (fun t_ k_ => ?_) ?_
        · refine XS.dup X5.here hx rfl (hb hby at_78) rfl rfl ?_
          show Steps p_.tables e_ below (T5.setTop (mkF m_ 79 #[.val (.int a), .val (.int b), .val (.int flags), .val (.int ovLen), .val (.int ovPage), .val (.int fill), .val (.int (own_m a)), .val (.int (own_m b)), .val (.int (if (flags &&& (1 : Int32)) = (0 : Int32) then (0 : Int32) else 1)), .val (.ref b1), .val (.ref b3), .unset, .unset, .unset, .unset, .unset, .unset] [(.ref b5), (.ref b5)])) t_
          refine XS.aload X5.here hx rfl (hb hby at_79) rfl rfl ?_
          show Steps p_.tables e_ below (T5.setTop (mkF m_ 81 #[.val (.int a), .val (.int b), .val (.int flags), .val (.int ovLen), .val (.int ovPage), .val (.int fill), .val (.int (own_m a)), .val (.int (own_m b)), .val (.int (if (flags &&& (1 : Int32)) = (0 : Int32) then (0 : Int32) else 1)), .val (.ref b1), .val (.ref b3), .unset, .unset, .unset, .unset, .unset, .unset] [(.ref b1), (.ref b5), (.ref b5)])) t_
          refine XS.aload X5.here hx rfl (hb hby at_81) rfl rfl ?_
          show Steps p_.tables e_ below (T5.setTop (mkF m_ 83 #[.val (.int a), .val (.int b), .val (.int flags), .val (.int ovLen), .val (.int ovPage), .val (.int fill), .val (.int (own_m a)), .val (.int (own_m b)), .val (.int (if (flags &&& (1 : Int32)) = (0 : Int32) then (0 : Int32) else 1)), .val (.ref b1), .val (.ref b3), .unset, .unset, .unset, .unset, .unset, .unset] [(.ref b3), (.ref b1), (.ref b5), (.ref b5)])) t_
          refine XS.iloadN X5.here hx rfl (hb hby at_83) rfl ?_
          show Steps p_.tables e_ below (T5.setTop (mkF m_ 84 #[.val (.int a), .val (.int b), .val (.int flags), .val (.int ovLen), .val (.int ovPage), .val (.int fill), .val (.int (own_m a)), .val (.int (own_m b)), .val (.int (if (flags &&& (1 : Int32)) = (0 : Int32) then (0 : Int32) else 1)), .val (.ref b1), .val (.ref b3), .unset, .unset, .unset, .unset, .unset, .unset] [(.int ovLen), (.ref b3), (.ref b1), (.ref b5), (.ref b5)])) t_
          refine XS.iload X5.here hx rfl (hb hby at_84) rfl ?_
          show Steps p_.tables e_ below (T5.setTop (mkF m_ 86 #[.val (.int a), .val (.int b), .val (.int flags), .val (.int ovLen), .val (.int ovPage), .val (.int fill), .val (.int (own_m a)), .val (.int (own_m b)), .val (.int (if (flags &&& (1 : Int32)) = (0 : Int32) then (0 : Int32) else 1)), .val (.ref b1), .val (.ref b3), .unset, .unset, .unset, .unset, .unset, .unset] [(.int ovPage), (.int ovLen), (.ref b3), (.ref b1), (.ref b5), (.ref b5)])) t_
          exact k_
        refine own_callC X5 hx hZ rfl hown (hw _ (List.mem_of_getElem? (i := 4) rfl)) (hw _ (List.mem_of_getElem? (i := 5) rfl)) (hw _ (List.mem_of_getElem? (i := 3) rfl)) (hw _ (List.mem_of_getElem? (i := 6) rfl)) (by decide) b5 [(.ref b1), (.ref b3), (.int ovLen), (.int ovPage)] [(.ref b5)] (rm1 l Z a0 hw b5 b1 b3 ovLen ovPage h5 n0 Z0 E_b5 F_key_b5 F_value_b5 F_overflowLength_b5 F_overflowPage_b5 g_b5) 1 (by decide) (by decide) e5 (by rw [hml]; rfl) (lenOf own_pd1 rfl) rfl (Nat.le_of_eq rfl) (hb hby at_86) (by decide) (by decide) ?_
        intro v6 T6 L6 X6 q6
        obtain ⟨rfl, N6q, K6, Eq6, Fq6_key, Fq6_value, Fq6_overflowLength, Fq6_overflowPage⟩ := q6
        have N6 := Fr.app N4 N6q
        replace A_b1 := A_b1.keep K6 (ninS ne_b1_b5 nin0)
        replace A_b3 := A_b3.keep K6 (ninS ne_b3_b5 nin0)
        -- F_key_b5 is dropped: written by the callee
        -- F_value_b5 is dropped: written by the callee
        -- F_overflowLength_b5 is dropped: written by the callee
        -- F_overflowPage_b5 is dropped: written by the callee
        replace E_b5 := E_b5.keep K6
        replace Z0 : n0 ≤ T6.heap.size := Nat.le_trans Z0 K6.1
        have F_key_b5 := Fq6_key
        have F_value_b5 := Fq6_value
        have F_overflowLength_b5 := Fq6_overflowLength
        have F_overflowPage_b5 := Fq6_overflowPage
        show own_Out p_ e_ below s_ _ _ _ T6 (mkF m_ 89 #[.val (.int a), .val (.int b), .val (.int flags), .val (.int ovLen), .val (.int ovPage), .val (.int fill), .val (.int (own_m a)), .val (.int (own_m b)), .val (.int (if (flags &&& (1 : Int32)) = (0 : Int32) then (0 : Int32) else 1)), .val (.ref b1), .val (.ref b3), .unset, .unset, .unset, .unset, .unset, .unset] [(.ref b5)])
        refine own_st T6 (mkF m_ 134 #[.val (.int a), .val (.int b), .val (.int flags), .val (.int ovLen), .val (.int ovPage), .val (.int fill), .val (.int (own_m a)), .val (.int (own_m b)), .val (.int (if (flags &&& (1 : Int32)) = (0 : Int32) then (0 : Int32) else 1)), .val (.ref b1), .val (.ref b3), .val (.ref b5), .val (.int (2 : Int32)), .val (.int (2 : Int32)), .val (.int (2 : Int32)), .val (.int (own_m b)), .val (.int (((6 : Int32) + (own_m a)) + (own_m b)))] [(.ref b5)]) (fun t_ k_ => ?_) ?_
        · refine XS.astore X6.here hx rfl (hb hby at_89) rfl rfl (l' := #[.val (.int a), .val (.int b), .val (.int flags), .val (.int ovLen), .val (.int ovPage), .val (.int fill), .val (.int (own_m a)), .val (.int (own_m b)), .val (.int (if (flags &&& (1 : Int32)) = (0 : Int32) then (0 : Int32) else 1)), .val (.ref b1), .val (.ref b3), .val (.ref b5), .unset, .unset, .unset, .unset, .unset]) rfl ?_
          show Steps p_.tables e_ below (T6.setTop (mkF m_ 91 #[.val (.int a), .val (.int b), .val (.int flags), .val (.int ovLen), .val (.int ovPage), .val (.int fill), .val (.int (own_m a)), .val (.int (own_m b)), .val (.int (if (flags &&& (1 : Int32)) = (0 : Int32) then (0 : Int32) else 1)), .val (.ref b1), .val (.ref b3), .val (.ref b5), .unset, .unset, .unset, .unset, .unset] [])) t_
          refine XS.iconst X6.here hx rfl (hb hby at_91) ?_
          show Steps p_.tables e_ below (T6.setTop (mkF m_ 92 #[.val (.int a), .val (.int b), .val (.int flags), .val (.int ovLen), .val (.int ovPage), .val (.int fill), .val (.int (own_m a)), .val (.int (own_m b)), .val (.int (if (flags &&& (1 : Int32)) = (0 : Int32) then (0 : Int32) else 1)), .val (.ref b1), .val (.ref b3), .val (.ref b5), .unset, .unset, .unset, .unset, .unset] [(.int (2 : Int32))])) t_
          refine XS.istore X6.here hx rfl (hb hby at_92) rfl (l' := #[.val (.int a), .val (.int b), .val (.int flags), .val (.int ovLen), .val (.int ovPage), .val (.int fill), .val (.int (own_m a)), .val (.int (own_m b)), .val (.int (if (flags &&& (1 : Int32)) = (0 : Int32) then (0 : Int32) else 1)), .val (.ref b1), .val (.ref b3), .val (.ref b5), .val (.int (2 : Int32)), .unset, .unset, .unset, .unset]) rfl ?_
          show Steps p_.tables e_ below (T6.setTop (mkF m_ 94 #[.val (.int a), .val (.int b), .val (.int flags), .val (.int ovLen), .val (.int ovPage), .val (.int fill), .val (.int (own_m a)), .val (.int (own_m b)), .val (.int (if (flags &&& (1 : Int32)) = (0 : Int32) then (0 : Int32) else 1)), .val (.ref b1), .val (.ref b3), .val (.ref b5), .val (.int (2 : Int32)), .unset, .unset, .unset, .unset] [])) t_
          refine XS.iconst X6.here hx rfl (hb hby at_94) ?_
          show Steps p_.tables e_ below (T6.setTop (mkF m_ 95 #[.val (.int a), .val (.int b), .val (.int flags), .val (.int ovLen), .val (.int ovPage), .val (.int fill), .val (.int (own_m a)), .val (.int (own_m b)), .val (.int (if (flags &&& (1 : Int32)) = (0 : Int32) then (0 : Int32) else 1)), .val (.ref b1), .val (.ref b3), .val (.ref b5), .val (.int (2 : Int32)), .unset, .unset, .unset, .unset] [(.int (2 : Int32))])) t_
          refine XS.istore X6.here hx rfl (hb hby at_95) rfl (l' := #[.val (.int a), .val (.int b), .val (.int flags), .val (.int ovLen), .val (.int ovPage), .val (.int fill), .val (.int (own_m a)), .val (.int (own_m b)), .val (.int (if (flags &&& (1 : Int32)) = (0 : Int32) then (0 : Int32) else 1)), .val (.ref b1), .val (.ref b3), .val (.ref b5), .val (.int (2 : Int32)), .val (.int (2 : Int32)), .unset, .unset, .unset]) rfl ?_
          show Steps p_.tables e_ below (T6.setTop (mkF m_ 97 #[.val (.int a), .val (.int b), .val (.int flags), .val (.int ovLen), .val (.int ovPage), .val (.int fill), .val (.int (own_m a)), .val (.int (own_m b)), .val (.int (if (flags &&& (1 : Int32)) = (0 : Int32) then (0 : Int32) else 1)), .val (.ref b1), .val (.ref b3), .val (.ref b5), .val (.int (2 : Int32)), .val (.int (2 : Int32)), .unset, .unset, .unset] [])) t_
          refine XS.iconst X6.here hx rfl (hb hby at_97) ?_
          show Steps p_.tables e_ below (T6.setTop (mkF m_ 98 #[.val (.int a), .val (.int b), .val (.int flags), .val (.int ovLen), .val (.int ovPage), .val (.int fill), .val (.int (own_m a)), .val (.int (own_m b)), .val (.int (if (flags &&& (1 : Int32)) = (0 : Int32) then (0 : Int32) else 1)), .val (.ref b1), .val (.ref b3), .val (.ref b5), .val (.int (2 : Int32)), .val (.int (2 : Int32)), .unset, .unset, .unset] [(.int (2 : Int32))])) t_
          refine XS.istore X6.here hx rfl (hb hby at_98) rfl (l' := #[.val (.int a), .val (.int b), .val (.int flags), .val (.int ovLen), .val (.int ovPage), .val (.int fill), .val (.int (own_m a)), .val (.int (own_m b)), .val (.int (if (flags &&& (1 : Int32)) = (0 : Int32) then (0 : Int32) else 1)), .val (.ref b1), .val (.ref b3), .val (.ref b5), .val (.int (2 : Int32)), .val (.int (2 : Int32)), .val (.int (2 : Int32)), .unset, .unset]) rfl ?_
          show Steps p_.tables e_ below (T6.setTop (mkF m_ 100 #[.val (.int a), .val (.int b), .val (.int flags), .val (.int ovLen), .val (.int ovPage), .val (.int fill), .val (.int (own_m a)), .val (.int (own_m b)), .val (.int (if (flags &&& (1 : Int32)) = (0 : Int32) then (0 : Int32) else 1)), .val (.ref b1), .val (.ref b3), .val (.ref b5), .val (.int (2 : Int32)), .val (.int (2 : Int32)), .val (.int (2 : Int32)), .unset, .unset] [])) t_
          refine XS.iload X6.here hx rfl (hb hby at_100) rfl ?_
          show Steps p_.tables e_ below (T6.setTop (mkF m_ 102 #[.val (.int a), .val (.int b), .val (.int flags), .val (.int ovLen), .val (.int ovPage), .val (.int fill), .val (.int (own_m a)), .val (.int (own_m b)), .val (.int (if (flags &&& (1 : Int32)) = (0 : Int32) then (0 : Int32) else 1)), .val (.ref b1), .val (.ref b3), .val (.ref b5), .val (.int (2 : Int32)), .val (.int (2 : Int32)), .val (.int (2 : Int32)), .unset, .unset] [(.int (if (flags &&& (1 : Int32)) = (0 : Int32) then (0 : Int32) else 1))])) t_
          refine XS.ifYes X6.here hx rfl (pc0 := 102) (pc' := 112) rfl (hb hby at_102) rfl ((if0 _ _).trans (teq (own_nt (hc48 : (flags &&& (1 : Int32)) = (0 : Int32)))).1) (by decide) (by decide) ?_
          show Steps p_.tables e_ below (T6.setTop (mkF m_ 112 #[.val (.int a), .val (.int b), .val (.int flags), .val (.int ovLen), .val (.int ovPage), .val (.int fill), .val (.int (own_m a)), .val (.int (own_m b)), .val (.int (if (flags &&& (1 : Int32)) = (0 : Int32) then (0 : Int32) else 1)), .val (.ref b1), .val (.ref b3), .val (.ref b5), .val (.int (2 : Int32)), .val (.int (2 : Int32)), .val (.int (2 : Int32)), .unset, .unset] [])) t_
          refine XS.iload X6.here hx rfl (hb hby at_112) rfl ?_
          show Steps p_.tables e_ below (T6.setTop (mkF m_ 114 #[.val (.int a), .val (.int b), .val (.int flags), .val (.int ovLen), .val (.int ovPage), .val (.int fill), .val (.int (own_m a)), .val (.int (own_m b)), .val (.int (if (flags &&& (1 : Int32)) = (0 : Int32) then (0 : Int32) else 1)), .val (.ref b1), .val (.ref b3), .val (.ref b5), .val (.int (2 : Int32)), .val (.int (2 : Int32)), .val (.int (2 : Int32)), .unset, .unset] [(.int (own_m b))])) t_
          refine XS.istore X6.here hx rfl (hb hby at_114) rfl (l' := #[.val (.int a), .val (.int b), .val (.int flags), .val (.int ovLen), .val (.int ovPage), .val (.int fill), .val (.int (own_m a)), .val (.int (own_m b)), .val (.int (if (flags &&& (1 : Int32)) = (0 : Int32) then (0 : Int32) else 1)), .val (.ref b1), .val (.ref b3), .val (.ref b5), .val (.int (2 : Int32)), .val (.int (2 : Int32)), .val (.int (2 : Int32)), .val (.int (own_m b)), .unset]) rfl ?_
          show Steps p_.tables e_ below (T6.setTop (mkF m_ 116 #[.val (.int a), .val (.int b), .val (.int flags), .val (.int ovLen), .val (.int ovPage), .val (.int fill), .val (.int (own_m a)), .val (.int (own_m b)), .val (.int (if (flags &&& (1 : Int32)) = (0 : Int32) then (0 : Int32) else 1)), .val (.ref b1), .val (.ref b3), .val (.ref b5), .val (.int (2 : Int32)), .val (.int (2 : Int32)), .val (.int (2 : Int32)), .val (.int (own_m b)), .unset] [])) t_
          refine XS.iload X6.here hx rfl (hb hby at_116) rfl ?_
          show Steps p_.tables e_ below (T6.setTop (mkF m_ 118 #[.val (.int a), .val (.int b), .val (.int flags), .val (.int ovLen), .val (.int ovPage), .val (.int fill), .val (.int (own_m a)), .val (.int (own_m b)), .val (.int (if (flags &&& (1 : Int32)) = (0 : Int32) then (0 : Int32) else 1)), .val (.ref b1), .val (.ref b3), .val (.ref b5), .val (.int (2 : Int32)), .val (.int (2 : Int32)), .val (.int (2 : Int32)), .val (.int (own_m b)), .unset] [(.int (2 : Int32))])) t_
          refine XS.iload X6.here hx rfl (hb hby at_118) rfl ?_
          show Steps p_.tables e_ below (T6.setTop (mkF m_ 120 #[.val (.int a), .val (.int b), .val (.int flags), .val (.int ovLen), .val (.int ovPage), .val (.int fill), .val (.int (own_m a)), .val (.int (own_m b)), .val (.int (if (flags &&& (1 : Int32)) = (0 : Int32) then (0 : Int32) else 1)), .val (.ref b1), .val (.ref b3), .val (.ref b5), .val (.int (2 : Int32)), .val (.int (2 : Int32)), .val (.int (2 : Int32)), .val (.int (own_m b)), .unset] [(.int (2 : Int32)), (.int (2 : Int32))])) t_
          refine XS.iadd X6.here hx rfl (hb hby at_120) rfl ?_
          show Steps p_.tables e_ below (T6.setTop (mkF m_ 121 #[.val (.int a), .val (.int b), .val (.int flags), .val (.int ovLen), .val (.int ovPage), .val (.int fill), .val (.int (own_m a)), .val (.int (own_m b)), .val (.int (if (flags &&& (1 : Int32)) = (0 : Int32) then (0 : Int32) else 1)), .val (.ref b1), .val (.ref b3), .val (.ref b5), .val (.int (2 : Int32)), .val (.int (2 : Int32)), .val (.int (2 : Int32)), .val (.int (own_m b)), .unset] [(.int (4 : Int32))])) t_
          refine XS.iload X6.here hx rfl (hb hby at_121) rfl ?_
          show Steps p_.tables e_ below (T6.setTop (mkF m_ 123 #[.val (.int a), .val (.int b), .val (.int flags), .val (.int ovLen), .val (.int ovPage), .val (.int fill), .val (.int (own_m a)), .val (.int (own_m b)), .val (.int (if (flags &&& (1 : Int32)) = (0 : Int32) then (0 : Int32) else 1)), .val (.ref b1), .val (.ref b3), .val (.ref b5), .val (.int (2 : Int32)), .val (.int (2 : Int32)), .val (.int (2 : Int32)), .val (.int (own_m b)), .unset] [(.int (2 : Int32)), (.int (4 : Int32))])) t_
          refine XS.iadd X6.here hx rfl (hb hby at_123) rfl ?_
          show Steps p_.tables e_ below (T6.setTop (mkF m_ 124 #[.val (.int a), .val (.int b), .val (.int flags), .val (.int ovLen), .val (.int ovPage), .val (.int fill), .val (.int (own_m a)), .val (.int (own_m b)), .val (.int (if (flags &&& (1 : Int32)) = (0 : Int32) then (0 : Int32) else 1)), .val (.ref b1), .val (.ref b3), .val (.ref b5), .val (.int (2 : Int32)), .val (.int (2 : Int32)), .val (.int (2 : Int32)), .val (.int (own_m b)), .unset] [(.int (6 : Int32))])) t_
          refine XS.iload X6.here hx rfl (hb hby at_124) rfl ?_
          show Steps p_.tables e_ below (T6.setTop (mkF m_ 126 #[.val (.int a), .val (.int b), .val (.int flags), .val (.int ovLen), .val (.int ovPage), .val (.int fill), .val (.int (own_m a)), .val (.int (own_m b)), .val (.int (if (flags &&& (1 : Int32)) = (0 : Int32) then (0 : Int32) else 1)), .val (.ref b1), .val (.ref b3), .val (.ref b5), .val (.int (2 : Int32)), .val (.int (2 : Int32)), .val (.int (2 : Int32)), .val (.int (own_m b)), .unset] [(.int (own_m a)), (.int (6 : Int32))])) t_
          refine XS.iadd X6.here hx rfl (hb hby at_126) rfl ?_
          show Steps p_.tables e_ below (T6.setTop (mkF m_ 127 #[.val (.int a), .val (.int b), .val (.int flags), .val (.int ovLen), .val (.int ovPage), .val (.int fill), .val (.int (own_m a)), .val (.int (own_m b)), .val (.int (if (flags &&& (1 : Int32)) = (0 : Int32) then (0 : Int32) else 1)), .val (.ref b1), .val (.ref b3), .val (.ref b5), .val (.int (2 : Int32)), .val (.int (2 : Int32)), .val (.int (2 : Int32)), .val (.int (own_m b)), .unset] [(.int ((6 : Int32) + (own_m a)))])) t_
          refine XS.iload X6.here hx rfl (hb hby at_127) rfl ?_
          show Steps p_.tables e_ below (T6.setTop (mkF m_ 129 #[.val (.int a), .val (.int b), .val (.int flags), .val (.int ovLen), .val (.int ovPage), .val (.int fill), .val (.int (own_m a)), .val (.int (own_m b)), .val (.int (if (flags &&& (1 : Int32)) = (0 : Int32) then (0 : Int32) else 1)), .val (.ref b1), .val (.ref b3), .val (.ref b5), .val (.int (2 : Int32)), .val (.int (2 : Int32)), .val (.int (2 : Int32)), .val (.int (own_m b)), .unset] [(.int (own_m b)), (.int ((6 : Int32) + (own_m a)))])) t_
          refine XS.iadd X6.here hx rfl (hb hby at_129) rfl ?_
          show Steps p_.tables e_ below (T6.setTop (mkF m_ 130 #[.val (.int a), .val (.int b), .val (.int flags), .val (.int ovLen), .val (.int ovPage), .val (.int fill), .val (.int (own_m a)), .val (.int (own_m b)), .val (.int (if (flags &&& (1 : Int32)) = (0 : Int32) then (0 : Int32) else 1)), .val (.ref b1), .val (.ref b3), .val (.ref b5), .val (.int (2 : Int32)), .val (.int (2 : Int32)), .val (.int (2 : Int32)), .val (.int (own_m b)), .unset] [(.int (((6 : Int32) + (own_m a)) + (own_m b)))])) t_
          refine XS.istore X6.here hx rfl (hb hby at_130) rfl (l' := #[.val (.int a), .val (.int b), .val (.int flags), .val (.int ovLen), .val (.int ovPage), .val (.int fill), .val (.int (own_m a)), .val (.int (own_m b)), .val (.int (if (flags &&& (1 : Int32)) = (0 : Int32) then (0 : Int32) else 1)), .val (.ref b1), .val (.ref b3), .val (.ref b5), .val (.int (2 : Int32)), .val (.int (2 : Int32)), .val (.int (2 : Int32)), .val (.int (own_m b)), .val (.int (((6 : Int32) + (own_m a)) + (own_m b)))]) rfl ?_
          show Steps p_.tables e_ below (T6.setTop (mkF m_ 132 #[.val (.int a), .val (.int b), .val (.int flags), .val (.int ovLen), .val (.int ovPage), .val (.int fill), .val (.int (own_m a)), .val (.int (own_m b)), .val (.int (if (flags &&& (1 : Int32)) = (0 : Int32) then (0 : Int32) else 1)), .val (.ref b1), .val (.ref b3), .val (.ref b5), .val (.int (2 : Int32)), .val (.int (2 : Int32)), .val (.int (2 : Int32)), .val (.int (own_m b)), .val (.int (((6 : Int32) + (own_m a)) + (own_m b)))] [])) t_
          refine XS.aload X6.here hx rfl (hb hby at_132) rfl rfl ?_
          show Steps p_.tables e_ below (T6.setTop (mkF m_ 134 #[.val (.int a), .val (.int b), .val (.int flags), .val (.int ovLen), .val (.int ovPage), .val (.int fill), .val (.int (own_m a)), .val (.int (own_m b)), .val (.int (if (flags &&& (1 : Int32)) = (0 : Int32) then (0 : Int32) else 1)), .val (.ref b1), .val (.ref b3), .val (.ref b5), .val (.int (2 : Int32)), .val (.int (2 : Int32)), .val (.int (2 : Int32)), .val (.int (own_m b)), .val (.int (((6 : Int32) + (own_m a)) + (own_m b)))] [(.ref b5)])) t_
          exact k_
        refine own_callV X6 hx hZ (y := (⟨"com/example/varrowkeep/varrowkeep/storage/Node$LeafCell", "size", "()I"⟩ : MethodName)) (z := (⟨"com/example/varrowkeep/varrowkeep/storage/Node$LeafCell", "size", "()I"⟩ : MethodName)) hown (hw _ (List.mem_of_getElem? (i := 23) rfl)) (hw _ (List.mem_of_getElem? (i := 24) rfl)) (notFace_of_selects (args := #[]) (mvT hZ (hw _ (List.mem_of_getElem? (i := 26) rfl)))) (hw _ (List.mem_of_getElem? (i := 26) rfl)) (hw _ (List.mem_of_getElem? (i := 25) rfl)) (hw _ (List.mem_of_getElem? (i := 3) rfl)) (hw _ (List.mem_of_getElem? (i := 27) rfl)) (by decide) b5 [] [] E_b5 (rm4 l Z a0 hw b5 b1 b3 k1 k3 (own_mn a) (own_mn b) _ _ (own_m a) (own_m b) T6.heap n0 Z0 F_key_b5 F_value_b5 A_b1 (own_m1 a) A_b3 (own_m1 b)) 0 (by decide) (by decide) rfl (by rw [hml]; rfl) (lenOf own_pd2 rfl) rfl (Nat.le_of_eq rfl) (hb hby at_134) (by decide) (by decide) ?_
        intro v7 T7 L7 X7 q7
        obtain ⟨rfl, N7q, e7⟩ := q7
        have N7 := Fr.app N6 N7q
        show own_Out p_ e_ below s_ _ _ _ T7 (mkF m_ 137 #[.val (.int a), .val (.int b), .val (.int flags), .val (.int ovLen), .val (.int ovPage), .val (.int fill), .val (.int (own_m a)), .val (.int (own_m b)), .val (.int (if (flags &&& (1 : Int32)) = (0 : Int32) then (0 : Int32) else 1)), .val (.ref b1), .val (.ref b3), .val (.ref b5), .val (.int (2 : Int32)), .val (.int (2 : Int32)), .val (.int (2 : Int32)), .val (.int (own_m b)), .val (.int (((6 : Int32) + (own_m a)) + (own_m b)))] [(.int (((6 : Int32) + (own_m a)) + (own_m b)))])
        refine own_st T7 (mkF m_ 147 #[.val (.int a), .val (.int b), .val (.int flags), .val (.int ovLen), .val (.int ovPage), .val (.int fill), .val (.int (own_m a)), .val (.int (own_m b)), .val (.int (if (flags &&& (1 : Int32)) = (0 : Int32) then (0 : Int32) else 1)), .val (.ref b1), .val (.ref b3), .val (.ref b5), .val (.int (2 : Int32)), .val (.int (2 : Int32)), .val (.int (2 : Int32)), .val (.int (own_m b)), .val (.int (((6 : Int32) + (own_m a)) + (own_m b)))] [(.int (1 : Int32))]) (fun t_ k_ => ?_) ?_
        · refine XS.iload X7.here hx rfl (hb hby at_137) rfl ?_
          show Steps p_.tables e_ below (T7.setTop (mkF m_ 139 #[.val (.int a), .val (.int b), .val (.int flags), .val (.int ovLen), .val (.int ovPage), .val (.int fill), .val (.int (own_m a)), .val (.int (own_m b)), .val (.int (if (flags &&& (1 : Int32)) = (0 : Int32) then (0 : Int32) else 1)), .val (.ref b1), .val (.ref b3), .val (.ref b5), .val (.int (2 : Int32)), .val (.int (2 : Int32)), .val (.int (2 : Int32)), .val (.int (own_m b)), .val (.int (((6 : Int32) + (own_m a)) + (own_m b)))] [(.int (((6 : Int32) + (own_m a)) + (own_m b))), (.int (((6 : Int32) + (own_m a)) + (own_m b)))])) t_
          refine XS.icmpNo X7.here hx rfl (hb hby at_139) rfl (teq (rfl : (((6 : Int32) + (own_m a)) + (own_m b)) = (((6 : Int32) + (own_m a)) + (own_m b)))).2 ?_
          show Steps p_.tables e_ below (T7.setTop (mkF m_ 142 #[.val (.int a), .val (.int b), .val (.int flags), .val (.int ovLen), .val (.int ovPage), .val (.int fill), .val (.int (own_m a)), .val (.int (own_m b)), .val (.int (if (flags &&& (1 : Int32)) = (0 : Int32) then (0 : Int32) else 1)), .val (.ref b1), .val (.ref b3), .val (.ref b5), .val (.int (2 : Int32)), .val (.int (2 : Int32)), .val (.int (2 : Int32)), .val (.int (own_m b)), .val (.int (((6 : Int32) + (own_m a)) + (own_m b)))] [])) t_
          refine XS.iconst X7.here hx rfl (hb hby at_142) ?_
          show Steps p_.tables e_ below (T7.setTop (mkF m_ 143 #[.val (.int a), .val (.int b), .val (.int flags), .val (.int ovLen), .val (.int ovPage), .val (.int fill), .val (.int (own_m a)), .val (.int (own_m b)), .val (.int (if (flags &&& (1 : Int32)) = (0 : Int32) then (0 : Int32) else 1)), .val (.ref b1), .val (.ref b3), .val (.ref b5), .val (.int (2 : Int32)), .val (.int (2 : Int32)), .val (.int (2 : Int32)), .val (.int (own_m b)), .val (.int (((6 : Int32) + (own_m a)) + (own_m b)))] [(.int (1 : Int32))])) t_
          refine XS.goto X7.here hx rfl (pc0 := 143) (pc' := 147) rfl (hb hby at_143) (by decide) (by decide) ?_
          show Steps p_.tables e_ below (T7.setTop (mkF m_ 147 #[.val (.int a), .val (.int b), .val (.int flags), .val (.int ovLen), .val (.int ovPage), .val (.int fill), .val (.int (own_m a)), .val (.int (own_m b)), .val (.int (if (flags &&& (1 : Int32)) = (0 : Int32) then (0 : Int32) else 1)), .val (.ref b1), .val (.ref b3), .val (.ref b5), .val (.int (2 : Int32)), .val (.int (2 : Int32)), .val (.int (2 : Int32)), .val (.int (own_m b)), .val (.int (((6 : Int32) + (own_m a)) + (own_m b)))] [(.int (1 : Int32))])) t_
          exact k_
        refine own_retN X7 hx hlk (t := .boolean) hret (by simp) (hb hby at_147) (by decide) (by decide) ?_
        exact ⟨rfl, N7⟩
      · refine own_st T3 (mkF m_ 75 #[.val (.int a), .val (.int b), .val (.int flags), .val (.int ovLen), .val (.int ovPage), .val (.int fill), .val (.int (own_m a)), .val (.int (own_m b)), .val (.int (if (flags &&& (1 : Int32)) = (0 : Int32) then (0 : Int32) else 1)), .val (.ref b1), .val (.ref b3), .unset, .unset, .unset, .unset, .unset, .unset] []) (fun t_ k_ => XS.ifYes X3.here hx rfl (pc0 := 59) (pc' := 75) rfl (hb hby at_59) rfl ((if0 _ _).trans (flt hc59).2.2.2) (by decide) (by decide) k_) ?_
        obtain ⟨T8, h8, X8, e8, E8, A8, D8, -, st8⟩ := newO X3 hx hZ hown (hw _ (List.mem_of_getElem? (i := 1) rfl)) (hw _ (List.mem_of_getElem? (i := 2) rfl)) (hw _ (List.mem_of_getElem? (i := 3) rfl)) e3 (g := (mkF m_ 75 #[.val (.int a), .val (.int b), .val (.int flags), .val (.int ovLen), .val (.int ovPage), .val (.int fill), .val (.int (own_m a)), .val (.int (own_m b)), .val (.int (if (flags &&& (1 : Int32)) = (0 : Int32) then (0 : Int32) else 1)), .val (.ref b1), .val (.ref b3), .unset, .unset, .unset, .unset, .unset, .unset] [])) rfl (hb hby at_75) (by decide) (by decide)
        obtain ⟨b8, g8⟩ : ∃ z, z = h3.size := ⟨_, rfl⟩
        rw [← g8] at A8 D8 st8
        have g_b8 : n0 ≤ b8 := g8 ▸ Z0
        have ne_b1_b8 : b1 ≠ b8 := Nat.ne_of_lt (Nat.lt_of_lt_of_le A_b1.lt (Nat.le_of_eq g8.symm))
        have ne_b3_b8 : b3 ≠ b8 := Nat.ne_of_lt (Nat.lt_of_lt_of_le A_b3.lt (Nat.le_of_eq g8.symm))
        replace A_b1 := A_b1.ext E8
        replace A_b3 := A_b3.ext E8
        replace Z0 : n0 ≤ h8.size := Nat.le_trans Z0 E8.1
        have F_key_b8 : Fld Z h8 b8 "com/example/varrowkeep/varrowkeep/storage/Node$LeafCell" "key" "[B" .null := D8 (Or.inr (hw _ (List.mem_of_getElem? (i := 16) rfl))) (ty := (.array .byte)) (by decide)
        have F_value_b8 : Fld Z h8 b8 "com/example/varrowkeep/varrowkeep/storage/Node$LeafCell" "value" "[B" .null := D8 (Or.inr (hw _ (List.mem_of_getElem? (i := 18) rfl))) (ty := (.array .byte)) (by decide)
        have F_overflowLength_b8 : Fld Z h8 b8 "com/example/varrowkeep/varrowkeep/storage/Node$LeafCell" "overflowLength" "I" (.int (0 : Int32)) := D8 (Or.inr (hw _ (List.mem_of_getElem? (i := 20) rfl))) (ty := .int) (by decide)
        have F_overflowPage_b8 : Fld Z h8 b8 "com/example/varrowkeep/varrowkeep/storage/Node$LeafCell" "overflowPage" "I" (.int (0 : Int32)) := D8 (Or.inr (hw _ (List.mem_of_getElem? (i := 22) rfl))) (ty := .int) (by decide)
        have E_b8 := A8
        refine own_st T8 (mkF m_ 78 #[.val (.int a), .val (.int b), .val (.int flags), .val (.int ovLen), .val (.int ovPage), .val (.int fill), .val (.int (own_m a)), .val (.int (own_m b)), .val (.int (if (flags &&& (1 : Int32)) = (0 : Int32) then (0 : Int32) else 1)), .val (.ref b1), .val (.ref b3), .unset, .unset, .unset, .unset, .unset, .unset] [(.ref b8)]) st8 ?_
        refine own_st T8 (mkF m_ 86 #[.val (.int a), .val (.int b), .val (.int flags), .val (.int ovLen), .val (.int ovPage), .val (.int fill), .val (.int (own_m a)), .val (.int (own_m b)), .val (.int (if (flags &&& (1 : Int32)) = (0 : Int32) then (0 : Int32) else 1)), .val (.ref b1), .val (.ref b3), .unset, .unset, .unset, .unset, .unset, .unset] [(.int ovPage), (.int ovLen), (.ref b3), (.ref b1), (.ref b8), (.ref b8)]) (fun t_ k_ => ?_) ?_
        · refine XS.dup X8.here hx rfl (hb hby at_78) rfl rfl ?_
          show Steps p_.tables e_ below (T8.setTop (mkF m_ 79 #[.val (.int a), .val (.int b), .val (.int flags), .val (.int ovLen), .val (.int ovPage), .val (.int fill), .val (.int (own_m a)), .val (.int (own_m b)), .val (.int (if (flags &&& (1 : Int32)) = (0 : Int32) then (0 : Int32) else 1)), .val (.ref b1), .val (.ref b3), .unset, .unset, .unset, .unset, .unset, .unset] [(.ref b8), (.ref b8)])) t_
          refine XS.aload X8.here hx rfl (hb hby at_79) rfl rfl ?_
          show Steps p_.tables e_ below (T8.setTop (mkF m_ 81 #[.val (.int a), .val (.int b), .val (.int flags), .val (.int ovLen), .val (.int ovPage), .val (.int fill), .val (.int (own_m a)), .val (.int (own_m b)), .val (.int (if (flags &&& (1 : Int32)) = (0 : Int32) then (0 : Int32) else 1)), .val (.ref b1), .val (.ref b3), .unset, .unset, .unset, .unset, .unset, .unset] [(.ref b1), (.ref b8), (.ref b8)])) t_
          refine XS.aload X8.here hx rfl (hb hby at_81) rfl rfl ?_
          show Steps p_.tables e_ below (T8.setTop (mkF m_ 83 #[.val (.int a), .val (.int b), .val (.int flags), .val (.int ovLen), .val (.int ovPage), .val (.int fill), .val (.int (own_m a)), .val (.int (own_m b)), .val (.int (if (flags &&& (1 : Int32)) = (0 : Int32) then (0 : Int32) else 1)), .val (.ref b1), .val (.ref b3), .unset, .unset, .unset, .unset, .unset, .unset] [(.ref b3), (.ref b1), (.ref b8), (.ref b8)])) t_
          refine XS.iloadN X8.here hx rfl (hb hby at_83) rfl ?_
          show Steps p_.tables e_ below (T8.setTop (mkF m_ 84 #[.val (.int a), .val (.int b), .val (.int flags), .val (.int ovLen), .val (.int ovPage), .val (.int fill), .val (.int (own_m a)), .val (.int (own_m b)), .val (.int (if (flags &&& (1 : Int32)) = (0 : Int32) then (0 : Int32) else 1)), .val (.ref b1), .val (.ref b3), .unset, .unset, .unset, .unset, .unset, .unset] [(.int ovLen), (.ref b3), (.ref b1), (.ref b8), (.ref b8)])) t_
          refine XS.iload X8.here hx rfl (hb hby at_84) rfl ?_
          show Steps p_.tables e_ below (T8.setTop (mkF m_ 86 #[.val (.int a), .val (.int b), .val (.int flags), .val (.int ovLen), .val (.int ovPage), .val (.int fill), .val (.int (own_m a)), .val (.int (own_m b)), .val (.int (if (flags &&& (1 : Int32)) = (0 : Int32) then (0 : Int32) else 1)), .val (.ref b1), .val (.ref b3), .unset, .unset, .unset, .unset, .unset, .unset] [(.int ovPage), (.int ovLen), (.ref b3), (.ref b1), (.ref b8), (.ref b8)])) t_
          exact k_
        refine own_callC X8 hx hZ rfl hown (hw _ (List.mem_of_getElem? (i := 4) rfl)) (hw _ (List.mem_of_getElem? (i := 5) rfl)) (hw _ (List.mem_of_getElem? (i := 3) rfl)) (hw _ (List.mem_of_getElem? (i := 6) rfl)) (by decide) b8 [(.ref b1), (.ref b3), (.int ovLen), (.int ovPage)] [(.ref b8)] (rm1 l Z a0 hw b8 b1 b3 ovLen ovPage h8 n0 Z0 E_b8 F_key_b8 F_value_b8 F_overflowLength_b8 F_overflowPage_b8 g_b8) 1 (by decide) (by decide) e8 (by rw [hml]; rfl) (lenOf own_pd1 rfl) rfl (Nat.le_of_eq rfl) (hb hby at_86) (by decide) (by decide) ?_
        intro v9 T9 L9 X9 q9
        obtain ⟨rfl, N9q, K9, Eq9, Fq9_key, Fq9_value, Fq9_overflowLength, Fq9_overflowPage⟩ := q9
        have N9 := Fr.app N2 N9q
        replace A_b1 := A_b1.keep K9 (ninS ne_b1_b8 nin0)
        replace A_b3 := A_b3.keep K9 (ninS ne_b3_b8 nin0)
        -- F_key_b8 is dropped: written by the callee
        -- F_value_b8 is dropped: written by the callee
        -- F_overflowLength_b8 is dropped: written by the callee
        -- F_overflowPage_b8 is dropped: written by the callee
        replace E_b8 := E_b8.keep K9
        replace Z0 : n0 ≤ T9.heap.size := Nat.le_trans Z0 K9.1
        have F_key_b8 := Fq9_key
        have F_value_b8 := Fq9_value
        have F_overflowLength_b8 := Fq9_overflowLength
        have F_overflowPage_b8 := Fq9_overflowPage
        show own_Out p_ e_ below s_ _ _ _ T9 (mkF m_ 89 #[.val (.int a), .val (.int b), .val (.int flags), .val (.int ovLen), .val (.int ovPage), .val (.int fill), .val (.int (own_m a)), .val (.int (own_m b)), .val (.int (if (flags &&& (1 : Int32)) = (0 : Int32) then (0 : Int32) else 1)), .val (.ref b1), .val (.ref b3), .unset, .unset, .unset, .unset, .unset, .unset] [(.ref b8)])
        refine own_st T9 (mkF m_ 134 #[.val (.int a), .val (.int b), .val (.int flags), .val (.int ovLen), .val (.int ovPage), .val (.int fill), .val (.int (own_m a)), .val (.int (own_m b)), .val (.int (if (flags &&& (1 : Int32)) = (0 : Int32) then (0 : Int32) else 1)), .val (.ref b1), .val (.ref b3), .val (.ref b8), .val (.int (2 : Int32)), .val (.int (2 : Int32)), .val (.int (2 : Int32)), .val (.int (own_m b)), .val (.int (((6 : Int32) + (own_m a)) + (own_m b)))] [(.ref b8)]) (fun t_ k_ => ?_) ?_
        · refine XS.astore X9.here hx rfl (hb hby at_89) rfl rfl (l' := #[.val (.int a), .val (.int b), .val (.int flags), .val (.int ovLen), .val (.int ovPage), .val (.int fill), .val (.int (own_m a)), .val (.int (own_m b)), .val (.int (if (flags &&& (1 : Int32)) = (0 : Int32) then (0 : Int32) else 1)), .val (.ref b1), .val (.ref b3), .val (.ref b8), .unset, .unset, .unset, .unset, .unset]) rfl ?_
          show Steps p_.tables e_ below (T9.setTop (mkF m_ 91 #[.val (.int a), .val (.int b), .val (.int flags), .val (.int ovLen), .val (.int ovPage), .val (.int fill), .val (.int (own_m a)), .val (.int (own_m b)), .val (.int (if (flags &&& (1 : Int32)) = (0 : Int32) then (0 : Int32) else 1)), .val (.ref b1), .val (.ref b3), .val (.ref b8), .unset, .unset, .unset, .unset, .unset] [])) t_
          refine XS.iconst X9.here hx rfl (hb hby at_91) ?_
          show Steps p_.tables e_ below (T9.setTop (mkF m_ 92 #[.val (.int a), .val (.int b), .val (.int flags), .val (.int ovLen), .val (.int ovPage), .val (.int fill), .val (.int (own_m a)), .val (.int (own_m b)), .val (.int (if (flags &&& (1 : Int32)) = (0 : Int32) then (0 : Int32) else 1)), .val (.ref b1), .val (.ref b3), .val (.ref b8), .unset, .unset, .unset, .unset, .unset] [(.int (2 : Int32))])) t_
          refine XS.istore X9.here hx rfl (hb hby at_92) rfl (l' := #[.val (.int a), .val (.int b), .val (.int flags), .val (.int ovLen), .val (.int ovPage), .val (.int fill), .val (.int (own_m a)), .val (.int (own_m b)), .val (.int (if (flags &&& (1 : Int32)) = (0 : Int32) then (0 : Int32) else 1)), .val (.ref b1), .val (.ref b3), .val (.ref b8), .val (.int (2 : Int32)), .unset, .unset, .unset, .unset]) rfl ?_
          show Steps p_.tables e_ below (T9.setTop (mkF m_ 94 #[.val (.int a), .val (.int b), .val (.int flags), .val (.int ovLen), .val (.int ovPage), .val (.int fill), .val (.int (own_m a)), .val (.int (own_m b)), .val (.int (if (flags &&& (1 : Int32)) = (0 : Int32) then (0 : Int32) else 1)), .val (.ref b1), .val (.ref b3), .val (.ref b8), .val (.int (2 : Int32)), .unset, .unset, .unset, .unset] [])) t_
          refine XS.iconst X9.here hx rfl (hb hby at_94) ?_
          show Steps p_.tables e_ below (T9.setTop (mkF m_ 95 #[.val (.int a), .val (.int b), .val (.int flags), .val (.int ovLen), .val (.int ovPage), .val (.int fill), .val (.int (own_m a)), .val (.int (own_m b)), .val (.int (if (flags &&& (1 : Int32)) = (0 : Int32) then (0 : Int32) else 1)), .val (.ref b1), .val (.ref b3), .val (.ref b8), .val (.int (2 : Int32)), .unset, .unset, .unset, .unset] [(.int (2 : Int32))])) t_
          refine XS.istore X9.here hx rfl (hb hby at_95) rfl (l' := #[.val (.int a), .val (.int b), .val (.int flags), .val (.int ovLen), .val (.int ovPage), .val (.int fill), .val (.int (own_m a)), .val (.int (own_m b)), .val (.int (if (flags &&& (1 : Int32)) = (0 : Int32) then (0 : Int32) else 1)), .val (.ref b1), .val (.ref b3), .val (.ref b8), .val (.int (2 : Int32)), .val (.int (2 : Int32)), .unset, .unset, .unset]) rfl ?_
          show Steps p_.tables e_ below (T9.setTop (mkF m_ 97 #[.val (.int a), .val (.int b), .val (.int flags), .val (.int ovLen), .val (.int ovPage), .val (.int fill), .val (.int (own_m a)), .val (.int (own_m b)), .val (.int (if (flags &&& (1 : Int32)) = (0 : Int32) then (0 : Int32) else 1)), .val (.ref b1), .val (.ref b3), .val (.ref b8), .val (.int (2 : Int32)), .val (.int (2 : Int32)), .unset, .unset, .unset] [])) t_
          refine XS.iconst X9.here hx rfl (hb hby at_97) ?_
          show Steps p_.tables e_ below (T9.setTop (mkF m_ 98 #[.val (.int a), .val (.int b), .val (.int flags), .val (.int ovLen), .val (.int ovPage), .val (.int fill), .val (.int (own_m a)), .val (.int (own_m b)), .val (.int (if (flags &&& (1 : Int32)) = (0 : Int32) then (0 : Int32) else 1)), .val (.ref b1), .val (.ref b3), .val (.ref b8), .val (.int (2 : Int32)), .val (.int (2 : Int32)), .unset, .unset, .unset] [(.int (2 : Int32))])) t_
          refine XS.istore X9.here hx rfl (hb hby at_98) rfl (l' := #[.val (.int a), .val (.int b), .val (.int flags), .val (.int ovLen), .val (.int ovPage), .val (.int fill), .val (.int (own_m a)), .val (.int (own_m b)), .val (.int (if (flags &&& (1 : Int32)) = (0 : Int32) then (0 : Int32) else 1)), .val (.ref b1), .val (.ref b3), .val (.ref b8), .val (.int (2 : Int32)), .val (.int (2 : Int32)), .val (.int (2 : Int32)), .unset, .unset]) rfl ?_
          show Steps p_.tables e_ below (T9.setTop (mkF m_ 100 #[.val (.int a), .val (.int b), .val (.int flags), .val (.int ovLen), .val (.int ovPage), .val (.int fill), .val (.int (own_m a)), .val (.int (own_m b)), .val (.int (if (flags &&& (1 : Int32)) = (0 : Int32) then (0 : Int32) else 1)), .val (.ref b1), .val (.ref b3), .val (.ref b8), .val (.int (2 : Int32)), .val (.int (2 : Int32)), .val (.int (2 : Int32)), .unset, .unset] [])) t_
          refine XS.iload X9.here hx rfl (hb hby at_100) rfl ?_
          show Steps p_.tables e_ below (T9.setTop (mkF m_ 102 #[.val (.int a), .val (.int b), .val (.int flags), .val (.int ovLen), .val (.int ovPage), .val (.int fill), .val (.int (own_m a)), .val (.int (own_m b)), .val (.int (if (flags &&& (1 : Int32)) = (0 : Int32) then (0 : Int32) else 1)), .val (.ref b1), .val (.ref b3), .val (.ref b8), .val (.int (2 : Int32)), .val (.int (2 : Int32)), .val (.int (2 : Int32)), .unset, .unset] [(.int (if (flags &&& (1 : Int32)) = (0 : Int32) then (0 : Int32) else 1))])) t_
          refine XS.ifYes X9.here hx rfl (pc0 := 102) (pc' := 112) rfl (hb hby at_102) rfl ((if0 _ _).trans (teq (own_nt (hc48 : (flags &&& (1 : Int32)) = (0 : Int32)))).1) (by decide) (by decide) ?_
          show Steps p_.tables e_ below (T9.setTop (mkF m_ 112 #[.val (.int a), .val (.int b), .val (.int flags), .val (.int ovLen), .val (.int ovPage), .val (.int fill), .val (.int (own_m a)), .val (.int (own_m b)), .val (.int (if (flags &&& (1 : Int32)) = (0 : Int32) then (0 : Int32) else 1)), .val (.ref b1), .val (.ref b3), .val (.ref b8), .val (.int (2 : Int32)), .val (.int (2 : Int32)), .val (.int (2 : Int32)), .unset, .unset] [])) t_
          refine XS.iload X9.here hx rfl (hb hby at_112) rfl ?_
          show Steps p_.tables e_ below (T9.setTop (mkF m_ 114 #[.val (.int a), .val (.int b), .val (.int flags), .val (.int ovLen), .val (.int ovPage), .val (.int fill), .val (.int (own_m a)), .val (.int (own_m b)), .val (.int (if (flags &&& (1 : Int32)) = (0 : Int32) then (0 : Int32) else 1)), .val (.ref b1), .val (.ref b3), .val (.ref b8), .val (.int (2 : Int32)), .val (.int (2 : Int32)), .val (.int (2 : Int32)), .unset, .unset] [(.int (own_m b))])) t_
          refine XS.istore X9.here hx rfl (hb hby at_114) rfl (l' := #[.val (.int a), .val (.int b), .val (.int flags), .val (.int ovLen), .val (.int ovPage), .val (.int fill), .val (.int (own_m a)), .val (.int (own_m b)), .val (.int (if (flags &&& (1 : Int32)) = (0 : Int32) then (0 : Int32) else 1)), .val (.ref b1), .val (.ref b3), .val (.ref b8), .val (.int (2 : Int32)), .val (.int (2 : Int32)), .val (.int (2 : Int32)), .val (.int (own_m b)), .unset]) rfl ?_
          show Steps p_.tables e_ below (T9.setTop (mkF m_ 116 #[.val (.int a), .val (.int b), .val (.int flags), .val (.int ovLen), .val (.int ovPage), .val (.int fill), .val (.int (own_m a)), .val (.int (own_m b)), .val (.int (if (flags &&& (1 : Int32)) = (0 : Int32) then (0 : Int32) else 1)), .val (.ref b1), .val (.ref b3), .val (.ref b8), .val (.int (2 : Int32)), .val (.int (2 : Int32)), .val (.int (2 : Int32)), .val (.int (own_m b)), .unset] [])) t_
          refine XS.iload X9.here hx rfl (hb hby at_116) rfl ?_
          show Steps p_.tables e_ below (T9.setTop (mkF m_ 118 #[.val (.int a), .val (.int b), .val (.int flags), .val (.int ovLen), .val (.int ovPage), .val (.int fill), .val (.int (own_m a)), .val (.int (own_m b)), .val (.int (if (flags &&& (1 : Int32)) = (0 : Int32) then (0 : Int32) else 1)), .val (.ref b1), .val (.ref b3), .val (.ref b8), .val (.int (2 : Int32)), .val (.int (2 : Int32)), .val (.int (2 : Int32)), .val (.int (own_m b)), .unset] [(.int (2 : Int32))])) t_
          refine XS.iload X9.here hx rfl (hb hby at_118) rfl ?_
          show Steps p_.tables e_ below (T9.setTop (mkF m_ 120 #[.val (.int a), .val (.int b), .val (.int flags), .val (.int ovLen), .val (.int ovPage), .val (.int fill), .val (.int (own_m a)), .val (.int (own_m b)), .val (.int (if (flags &&& (1 : Int32)) = (0 : Int32) then (0 : Int32) else 1)), .val (.ref b1), .val (.ref b3), .val (.ref b8), .val (.int (2 : Int32)), .val (.int (2 : Int32)), .val (.int (2 : Int32)), .val (.int (own_m b)), .unset] [(.int (2 : Int32)), (.int (2 : Int32))])) t_
          refine XS.iadd X9.here hx rfl (hb hby at_120) rfl ?_
          show Steps p_.tables e_ below (T9.setTop (mkF m_ 121 #[.val (.int a), .val (.int b), .val (.int flags), .val (.int ovLen), .val (.int ovPage), .val (.int fill), .val (.int (own_m a)), .val (.int (own_m b)), .val (.int (if (flags &&& (1 : Int32)) = (0 : Int32) then (0 : Int32) else 1)), .val (.ref b1), .val (.ref b3), .val (.ref b8), .val (.int (2 : Int32)), .val (.int (2 : Int32)), .val (.int (2 : Int32)), .val (.int (own_m b)), .unset] [(.int (4 : Int32))])) t_
          refine XS.iload X9.here hx rfl (hb hby at_121) rfl ?_
          show Steps p_.tables e_ below (T9.setTop (mkF m_ 123 #[.val (.int a), .val (.int b), .val (.int flags), .val (.int ovLen), .val (.int ovPage), .val (.int fill), .val (.int (own_m a)), .val (.int (own_m b)), .val (.int (if (flags &&& (1 : Int32)) = (0 : Int32) then (0 : Int32) else 1)), .val (.ref b1), .val (.ref b3), .val (.ref b8), .val (.int (2 : Int32)), .val (.int (2 : Int32)), .val (.int (2 : Int32)), .val (.int (own_m b)), .unset] [(.int (2 : Int32)), (.int (4 : Int32))])) t_
          refine XS.iadd X9.here hx rfl (hb hby at_123) rfl ?_
          show Steps p_.tables e_ below (T9.setTop (mkF m_ 124 #[.val (.int a), .val (.int b), .val (.int flags), .val (.int ovLen), .val (.int ovPage), .val (.int fill), .val (.int (own_m a)), .val (.int (own_m b)), .val (.int (if (flags &&& (1 : Int32)) = (0 : Int32) then (0 : Int32) else 1)), .val (.ref b1), .val (.ref b3), .val (.ref b8), .val (.int (2 : Int32)), .val (.int (2 : Int32)), .val (.int (2 : Int32)), .val (.int (own_m b)), .unset] [(.int (6 : Int32))])) t_
          refine XS.iload X9.here hx rfl (hb hby at_124) rfl ?_
          show Steps p_.tables e_ below (T9.setTop (mkF m_ 126 #[.val (.int a), .val (.int b), .val (.int flags), .val (.int ovLen), .val (.int ovPage), .val (.int fill), .val (.int (own_m a)), .val (.int (own_m b)), .val (.int (if (flags &&& (1 : Int32)) = (0 : Int32) then (0 : Int32) else 1)), .val (.ref b1), .val (.ref b3), .val (.ref b8), .val (.int (2 : Int32)), .val (.int (2 : Int32)), .val (.int (2 : Int32)), .val (.int (own_m b)), .unset] [(.int (own_m a)), (.int (6 : Int32))])) t_
          refine XS.iadd X9.here hx rfl (hb hby at_126) rfl ?_
          show Steps p_.tables e_ below (T9.setTop (mkF m_ 127 #[.val (.int a), .val (.int b), .val (.int flags), .val (.int ovLen), .val (.int ovPage), .val (.int fill), .val (.int (own_m a)), .val (.int (own_m b)), .val (.int (if (flags &&& (1 : Int32)) = (0 : Int32) then (0 : Int32) else 1)), .val (.ref b1), .val (.ref b3), .val (.ref b8), .val (.int (2 : Int32)), .val (.int (2 : Int32)), .val (.int (2 : Int32)), .val (.int (own_m b)), .unset] [(.int ((6 : Int32) + (own_m a)))])) t_
          refine XS.iload X9.here hx rfl (hb hby at_127) rfl ?_
          show Steps p_.tables e_ below (T9.setTop (mkF m_ 129 #[.val (.int a), .val (.int b), .val (.int flags), .val (.int ovLen), .val (.int ovPage), .val (.int fill), .val (.int (own_m a)), .val (.int (own_m b)), .val (.int (if (flags &&& (1 : Int32)) = (0 : Int32) then (0 : Int32) else 1)), .val (.ref b1), .val (.ref b3), .val (.ref b8), .val (.int (2 : Int32)), .val (.int (2 : Int32)), .val (.int (2 : Int32)), .val (.int (own_m b)), .unset] [(.int (own_m b)), (.int ((6 : Int32) + (own_m a)))])) t_
          refine XS.iadd X9.here hx rfl (hb hby at_129) rfl ?_
          show Steps p_.tables e_ below (T9.setTop (mkF m_ 130 #[.val (.int a), .val (.int b), .val (.int flags), .val (.int ovLen), .val (.int ovPage), .val (.int fill), .val (.int (own_m a)), .val (.int (own_m b)), .val (.int (if (flags &&& (1 : Int32)) = (0 : Int32) then (0 : Int32) else 1)), .val (.ref b1), .val (.ref b3), .val (.ref b8), .val (.int (2 : Int32)), .val (.int (2 : Int32)), .val (.int (2 : Int32)), .val (.int (own_m b)), .unset] [(.int (((6 : Int32) + (own_m a)) + (own_m b)))])) t_
          refine XS.istore X9.here hx rfl (hb hby at_130) rfl (l' := #[.val (.int a), .val (.int b), .val (.int flags), .val (.int ovLen), .val (.int ovPage), .val (.int fill), .val (.int (own_m a)), .val (.int (own_m b)), .val (.int (if (flags &&& (1 : Int32)) = (0 : Int32) then (0 : Int32) else 1)), .val (.ref b1), .val (.ref b3), .val (.ref b8), .val (.int (2 : Int32)), .val (.int (2 : Int32)), .val (.int (2 : Int32)), .val (.int (own_m b)), .val (.int (((6 : Int32) + (own_m a)) + (own_m b)))]) rfl ?_
          show Steps p_.tables e_ below (T9.setTop (mkF m_ 132 #[.val (.int a), .val (.int b), .val (.int flags), .val (.int ovLen), .val (.int ovPage), .val (.int fill), .val (.int (own_m a)), .val (.int (own_m b)), .val (.int (if (flags &&& (1 : Int32)) = (0 : Int32) then (0 : Int32) else 1)), .val (.ref b1), .val (.ref b3), .val (.ref b8), .val (.int (2 : Int32)), .val (.int (2 : Int32)), .val (.int (2 : Int32)), .val (.int (own_m b)), .val (.int (((6 : Int32) + (own_m a)) + (own_m b)))] [])) t_
          refine XS.aload X9.here hx rfl (hb hby at_132) rfl rfl ?_
          show Steps p_.tables e_ below (T9.setTop (mkF m_ 134 #[.val (.int a), .val (.int b), .val (.int flags), .val (.int ovLen), .val (.int ovPage), .val (.int fill), .val (.int (own_m a)), .val (.int (own_m b)), .val (.int (if (flags &&& (1 : Int32)) = (0 : Int32) then (0 : Int32) else 1)), .val (.ref b1), .val (.ref b3), .val (.ref b8), .val (.int (2 : Int32)), .val (.int (2 : Int32)), .val (.int (2 : Int32)), .val (.int (own_m b)), .val (.int (((6 : Int32) + (own_m a)) + (own_m b)))] [(.ref b8)])) t_
          exact k_
        refine own_callV X9 hx hZ (y := (⟨"com/example/varrowkeep/varrowkeep/storage/Node$LeafCell", "size", "()I"⟩ : MethodName)) (z := (⟨"com/example/varrowkeep/varrowkeep/storage/Node$LeafCell", "size", "()I"⟩ : MethodName)) hown (hw _ (List.mem_of_getElem? (i := 23) rfl)) (hw _ (List.mem_of_getElem? (i := 24) rfl)) (notFace_of_selects (args := #[]) (mvT hZ (hw _ (List.mem_of_getElem? (i := 26) rfl)))) (hw _ (List.mem_of_getElem? (i := 26) rfl)) (hw _ (List.mem_of_getElem? (i := 25) rfl)) (hw _ (List.mem_of_getElem? (i := 3) rfl)) (hw _ (List.mem_of_getElem? (i := 27) rfl)) (by decide) b8 [] [] E_b8 (rm4 l Z a0 hw b8 b1 b3 k1 k3 (own_mn a) (own_mn b) _ _ (own_m a) (own_m b) T9.heap n0 Z0 F_key_b8 F_value_b8 A_b1 (own_m1 a) A_b3 (own_m1 b)) 0 (by decide) (by decide) rfl (by rw [hml]; rfl) (lenOf own_pd2 rfl) rfl (Nat.le_of_eq rfl) (hb hby at_134) (by decide) (by decide) ?_
        intro v10 T10 L10 X10 q10
        obtain ⟨rfl, N10q, e10⟩ := q10
        have N10 := Fr.app N9 N10q
        show own_Out p_ e_ below s_ _ _ _ T10 (mkF m_ 137 #[.val (.int a), .val (.int b), .val (.int flags), .val (.int ovLen), .val (.int ovPage), .val (.int fill), .val (.int (own_m a)), .val (.int (own_m b)), .val (.int (if (flags &&& (1 : Int32)) = (0 : Int32) then (0 : Int32) else 1)), .val (.ref b1), .val (.ref b3), .val (.ref b8), .val (.int (2 : Int32)), .val (.int (2 : Int32)), .val (.int (2 : Int32)), .val (.int (own_m b)), .val (.int (((6 : Int32) + (own_m a)) + (own_m b)))] [(.int (((6 : Int32) + (own_m a)) + (own_m b)))])
        refine own_st T10 (mkF m_ 147 #[.val (.int a), .val (.int b), .val (.int flags), .val (.int ovLen), .val (.int ovPage), .val (.int fill), .val (.int (own_m a)), .val (.int (own_m b)), .val (.int (if (flags &&& (1 : Int32)) = (0 : Int32) then (0 : Int32) else 1)), .val (.ref b1), .val (.ref b3), .val (.ref b8), .val (.int (2 : Int32)), .val (.int (2 : Int32)), .val (.int (2 : Int32)), .val (.int (own_m b)), .val (.int (((6 : Int32) + (own_m a)) + (own_m b)))] [(.int (1 : Int32))]) (fun t_ k_ => ?_) ?_
        · refine XS.iload X10.here hx rfl (hb hby at_137) rfl ?_
          show Steps p_.tables e_ below (T10.setTop (mkF m_ 139 #[.val (.int a), .val (.int b), .val (.int flags), .val (.int ovLen), .val (.int ovPage), .val (.int fill), .val (.int (own_m a)), .val (.int (own_m b)), .val (.int (if (flags &&& (1 : Int32)) = (0 : Int32) then (0 : Int32) else 1)), .val (.ref b1), .val (.ref b3), .val (.ref b8), .val (.int (2 : Int32)), .val (.int (2 : Int32)), .val (.int (2 : Int32)), .val (.int (own_m b)), .val (.int (((6 : Int32) + (own_m a)) + (own_m b)))] [(.int (((6 : Int32) + (own_m a)) + (own_m b))), (.int (((6 : Int32) + (own_m a)) + (own_m b)))])) t_
          refine XS.icmpNo X10.here hx rfl (hb hby at_139) rfl (teq (rfl : (((6 : Int32) + (own_m a)) + (own_m b)) = (((6 : Int32) + (own_m a)) + (own_m b)))).2 ?_
          show Steps p_.tables e_ below (T10.setTop (mkF m_ 142 #[.val (.int a), .val (.int b), .val (.int flags), .val (.int ovLen), .val (.int ovPage), .val (.int fill), .val (.int (own_m a)), .val (.int (own_m b)), .val (.int (if (flags &&& (1 : Int32)) = (0 : Int32) then (0 : Int32) else 1)), .val (.ref b1), .val (.ref b3), .val (.ref b8), .val (.int (2 : Int32)), .val (.int (2 : Int32)), .val (.int (2 : Int32)), .val (.int (own_m b)), .val (.int (((6 : Int32) + (own_m a)) + (own_m b)))] [])) t_
          refine XS.iconst X10.here hx rfl (hb hby at_142) ?_
          show Steps p_.tables e_ below (T10.setTop (mkF m_ 143 #[.val (.int a), .val (.int b), .val (.int flags), .val (.int ovLen), .val (.int ovPage), .val (.int fill), .val (.int (own_m a)), .val (.int (own_m b)), .val (.int (if (flags &&& (1 : Int32)) = (0 : Int32) then (0 : Int32) else 1)), .val (.ref b1), .val (.ref b3), .val (.ref b8), .val (.int (2 : Int32)), .val (.int (2 : Int32)), .val (.int (2 : Int32)), .val (.int (own_m b)), .val (.int (((6 : Int32) + (own_m a)) + (own_m b)))] [(.int (1 : Int32))])) t_
          refine XS.goto X10.here hx rfl (pc0 := 143) (pc' := 147) rfl (hb hby at_143) (by decide) (by decide) ?_
          show Steps p_.tables e_ below (T10.setTop (mkF m_ 147 #[.val (.int a), .val (.int b), .val (.int flags), .val (.int ovLen), .val (.int ovPage), .val (.int fill), .val (.int (own_m a)), .val (.int (own_m b)), .val (.int (if (flags &&& (1 : Int32)) = (0 : Int32) then (0 : Int32) else 1)), .val (.ref b1), .val (.ref b3), .val (.ref b8), .val (.int (2 : Int32)), .val (.int (2 : Int32)), .val (.int (2 : Int32)), .val (.int (own_m b)), .val (.int (((6 : Int32) + (own_m a)) + (own_m b)))] [(.int (1 : Int32))])) t_
          exact k_
        refine own_retN X10 hx hlk (t := .boolean) hret (by simp) (hb hby at_147) (by decide) (by decide) ?_
        exact ⟨rfl, N10⟩
    · refine own_st T2 (mkF m_ 75 #[.val (.int a), .val (.int b), .val (.int flags), .val (.int ovLen), .val (.int ovPage), .val (.int fill), .val (.int (own_m a)), .val (.int (own_m b)), .val (.int (if (flags &&& (1 : Int32)) = (0 : Int32) then (0 : Int32) else 1)), .val (.ref b1), .val .null, .unset, .unset, .unset, .unset, .unset, .unset] []) (fun t_ k_ => XS.ifYes X2.here hx rfl (pc0 := 48) (pc' := 75) rfl (hb hby at_48) rfl ((if0 _ _).trans (feq (own_nf hc48)).2) (by decide) (by decide) k_) ?_
      obtain ⟨T11, h11, X11, e11, E11, A11, D11, -, st11⟩ := newO X2 hx hZ hown (hw _ (List.mem_of_getElem? (i := 1) rfl)) (hw _ (List.mem_of_getElem? (i := 2) rfl)) (hw _ (List.mem_of_getElem? (i := 3) rfl)) e2 (g := (mkF m_ 75 #[.val (.int a), .val (.int b), .val (.int flags), .val (.int ovLen), .val (.int ovPage), .val (.int fill), .val (.int (own_m a)), .val (.int (own_m b)), .val (.int (if (flags &&& (1 : Int32)) = (0 : Int32) then (0 : Int32) else 1)), .val (.ref b1), .val .null, .unset, .unset, .unset, .unset, .unset, .unset] [])) rfl (hb hby at_75) (by decide) (by decide)
      obtain ⟨b11, g11⟩ : ∃ z, z = h2.size := ⟨_, rfl⟩
      rw [← g11] at A11 D11 st11
      have g_b11 : n0 ≤ b11 := g11 ▸ Z0
      have ne_b1_b11 : b1 ≠ b11 := Nat.ne_of_lt (Nat.lt_of_lt_of_le A_b1.lt (Nat.le_of_eq g11.symm))
      replace A_b1 := A_b1.ext E11
      replace Z0 : n0 ≤ h11.size := Nat.le_trans Z0 E11.1
      have F_key_b11 : Fld Z h11 b11 "com/example/varrowkeep/varrowkeep/storage/Node$LeafCell" "key" "[B" .null := D11 (Or.inr (hw _ (List.mem_of_getElem? (i := 16) rfl))) (ty := (.array .byte)) (by decide)
      have F_value_b11 : Fld Z h11 b11 "com/example/varrowkeep/varrowkeep/storage/Node$LeafCell" "value" "[B" .null := D11 (Or.inr (hw _ (List.mem_of_getElem? (i := 18) rfl))) (ty := (.array .byte)) (by decide)
      have F_overflowLength_b11 : Fld Z h11 b11 "com/example/varrowkeep/varrowkeep/storage/Node$LeafCell" "overflowLength" "I" (.int (0 : Int32)) := D11 (Or.inr (hw _ (List.mem_of_getElem? (i := 20) rfl))) (ty := .int) (by decide)
      have F_overflowPage_b11 : Fld Z h11 b11 "com/example/varrowkeep/varrowkeep/storage/Node$LeafCell" "overflowPage" "I" (.int (0 : Int32)) := D11 (Or.inr (hw _ (List.mem_of_getElem? (i := 22) rfl))) (ty := .int) (by decide)
      have E_b11 := A11
      refine own_st T11 (mkF m_ 78 #[.val (.int a), .val (.int b), .val (.int flags), .val (.int ovLen), .val (.int ovPage), .val (.int fill), .val (.int (own_m a)), .val (.int (own_m b)), .val (.int (if (flags &&& (1 : Int32)) = (0 : Int32) then (0 : Int32) else 1)), .val (.ref b1), .val .null, .unset, .unset, .unset, .unset, .unset, .unset] [(.ref b11)]) st11 ?_
      refine own_st T11 (mkF m_ 86 #[.val (.int a), .val (.int b), .val (.int flags), .val (.int ovLen), .val (.int ovPage), .val (.int fill), .val (.int (own_m a)), .val (.int (own_m b)), .val (.int (if (flags &&& (1 : Int32)) = (0 : Int32) then (0 : Int32) else 1)), .val (.ref b1), .val .null, .unset, .unset, .unset, .unset, .unset, .unset] [(.int ovPage), (.int ovLen), .null, (.ref b1), (.ref b11), (.ref b11)]) (fun t_ k_ => ?_) ?_
      · refine XS.dup X11.here hx rfl (hb hby at_78) rfl rfl ?_
        show Steps p_.tables e_ below (T11.setTop (mkF m_ 79 #[.val (.int a), .val (.int b), .val (.int flags), .val (.int ovLen), .val (.int ovPage), .val (.int fill), .val (.int (own_m a)), .val (.int (own_m b)), .val (.int (if (flags &&& (1 : Int32)) = (0 : Int32) then (0 : Int32) else 1)), .val (.ref b1), .val .null, .unset, .unset, .unset, .unset, .unset, .unset] [(.ref b11), (.ref b11)])) t_
        refine XS.aload X11.here hx rfl (hb hby at_79) rfl rfl ?_
        show Steps p_.tables e_ below (T11.setTop (mkF m_ 81 #[.val (.int a), .val (.int b), .val (.int flags), .val (.int ovLen), .val (.int ovPage), .val (.int fill), .val (.int (own_m a)), .val (.int (own_m b)), .val (.int (if (flags &&& (1 : Int32)) = (0 : Int32) then (0 : Int32) else 1)), .val (.ref b1), .val .null, .unset, .unset, .unset, .unset, .unset, .unset] [(.ref b1), (.ref b11), (.ref b11)])) t_
        refine XS.aload X11.here hx rfl (hb hby at_81) rfl rfl ?_
        show Steps p_.tables e_ below (T11.setTop (mkF m_ 83 #[.val (.int a), .val (.int b), .val (.int flags), .val (.int ovLen), .val (.int ovPage), .val (.int fill), .val (.int (own_m a)), .val (.int (own_m b)), .val (.int (if (flags &&& (1 : Int32)) = (0 : Int32) then (0 : Int32) else 1)), .val (.ref b1), .val .null, .unset, .unset, .unset, .unset, .unset, .unset] [.null, (.ref b1), (.ref b11), (.ref b11)])) t_
        refine XS.iloadN X11.here hx rfl (hb hby at_83) rfl ?_
        show Steps p_.tables e_ below (T11.setTop (mkF m_ 84 #[.val (.int a), .val (.int b), .val (.int flags), .val (.int ovLen), .val (.int ovPage), .val (.int fill), .val (.int (own_m a)), .val (.int (own_m b)), .val (.int (if (flags &&& (1 : Int32)) = (0 : Int32) then (0 : Int32) else 1)), .val (.ref b1), .val .null, .unset, .unset, .unset, .unset, .unset, .unset] [(.int ovLen), .null, (.ref b1), (.ref b11), (.ref b11)])) t_
        refine XS.iload X11.here hx rfl (hb hby at_84) rfl ?_
        show Steps p_.tables e_ below (T11.setTop (mkF m_ 86 #[.val (.int a), .val (.int b), .val (.int flags), .val (.int ovLen), .val (.int ovPage), .val (.int fill), .val (.int (own_m a)), .val (.int (own_m b)), .val (.int (if (flags &&& (1 : Int32)) = (0 : Int32) then (0 : Int32) else 1)), .val (.ref b1), .val .null, .unset, .unset, .unset, .unset, .unset, .unset] [(.int ovPage), (.int ovLen), .null, (.ref b1), (.ref b11), (.ref b11)])) t_
        exact k_
      refine own_callC X11 hx hZ rfl hown (hw _ (List.mem_of_getElem? (i := 4) rfl)) (hw _ (List.mem_of_getElem? (i := 5) rfl)) (hw _ (List.mem_of_getElem? (i := 3) rfl)) (hw _ (List.mem_of_getElem? (i := 6) rfl)) (by decide) b11 [(.ref b1), .null, (.int ovLen), (.int ovPage)] [(.ref b11)] (rm1n l Z a0 hw b11 b1 ovLen ovPage h11 n0 Z0 E_b11 F_key_b11 F_value_b11 F_overflowLength_b11 F_overflowPage_b11 g_b11) 1 (by decide) (by decide) e11 (by rw [hml]; rfl) (lenOf own_pd1 rfl) rfl (Nat.le_of_eq rfl) (hb hby at_86) (by decide) (by decide) ?_
      intro v12 T12 L12 X12 q12
      obtain ⟨rfl, N12q, K12, Eq12, Fq12_key, Fq12_value, Fq12_overflowLength, Fq12_overflowPage⟩ := q12
      have N12 := Fr.app N2 N12q
      replace A_b1 := A_b1.keep K12 (ninS ne_b1_b11 nin0)
      -- F_key_b11 is dropped: written by the callee
      -- F_value_b11 is dropped: written by the callee
      -- F_overflowLength_b11 is dropped: written by the callee
      -- F_overflowPage_b11 is dropped: written by the callee
      replace E_b11 := E_b11.keep K12
      replace Z0 : n0 ≤ T12.heap.size := Nat.le_trans Z0 K12.1
      have F_key_b11 := Fq12_key
      have F_value_b11 := Fq12_value
      have F_overflowLength_b11 := Fq12_overflowLength
      have F_overflowPage_b11 := Fq12_overflowPage
      show own_Out p_ e_ below s_ _ _ _ T12 (mkF m_ 89 #[.val (.int a), .val (.int b), .val (.int flags), .val (.int ovLen), .val (.int ovPage), .val (.int fill), .val (.int (own_m a)), .val (.int (own_m b)), .val (.int (if (flags &&& (1 : Int32)) = (0 : Int32) then (0 : Int32) else 1)), .val (.ref b1), .val .null, .unset, .unset, .unset, .unset, .unset, .unset] [(.ref b11)])
      refine own_st T12 (mkF m_ 134 #[.val (.int a), .val (.int b), .val (.int flags), .val (.int ovLen), .val (.int ovPage), .val (.int fill), .val (.int (own_m a)), .val (.int (own_m b)), .val (.int (if (flags &&& (1 : Int32)) = (0 : Int32) then (0 : Int32) else 1)), .val (.ref b1), .val .null, .val (.ref b11), .val (.int (2 : Int32)), .val (.int (2 : Int32)), .val (.int (2 : Int32)), .val (.int (8 : Int32)), .val (.int (((6 : Int32) + (own_m a)) + (8 : Int32)))] [(.ref b11)]) (fun t_ k_ => ?_) ?_
      · refine XS.astore X12.here hx rfl (hb hby at_89) rfl rfl (l' := #[.val (.int a), .val (.int b), .val (.int flags), .val (.int ovLen), .val (.int ovPage), .val (.int fill), .val (.int (own_m a)), .val (.int (own_m b)), .val (.int (if (flags &&& (1 : Int32)) = (0 : Int32) then (0 : Int32) else 1)), .val (.ref b1), .val .null, .val (.ref b11), .unset, .unset, .unset, .unset, .unset]) rfl ?_
        show Steps p_.tables e_ below (T12.setTop (mkF m_ 91 #[.val (.int a), .val (.int b), .val (.int flags), .val (.int ovLen), .val (.int ovPage), .val (.int fill), .val (.int (own_m a)), .val (.int (own_m b)), .val (.int (if (flags &&& (1 : Int32)) = (0 : Int32) then (0 : Int32) else 1)), .val (.ref b1), .val .null, .val (.ref b11), .unset, .unset, .unset, .unset, .unset] [])) t_
        refine XS.iconst X12.here hx rfl (hb hby at_91) ?_
        show Steps p_.tables e_ below (T12.setTop (mkF m_ 92 #[.val (.int a), .val (.int b), .val (.int flags), .val (.int ovLen), .val (.int ovPage), .val (.int fill), .val (.int (own_m a)), .val (.int (own_m b)), .val (.int (if (flags &&& (1 : Int32)) = (0 : Int32) then (0 : Int32) else 1)), .val (.ref b1), .val .null, .val (.ref b11), .unset, .unset, .unset, .unset, .unset] [(.int (2 : Int32))])) t_
        refine XS.istore X12.here hx rfl (hb hby at_92) rfl (l' := #[.val (.int a), .val (.int b), .val (.int flags), .val (.int ovLen), .val (.int ovPage), .val (.int fill), .val (.int (own_m a)), .val (.int (own_m b)), .val (.int (if (flags &&& (1 : Int32)) = (0 : Int32) then (0 : Int32) else 1)), .val (.ref b1), .val .null, .val (.ref b11), .val (.int (2 : Int32)), .unset, .unset, .unset, .unset]) rfl ?_
        show Steps p_.tables e_ below (T12.setTop (mkF m_ 94 #[.val (.int a), .val (.int b), .val (.int flags), .val (.int ovLen), .val (.int ovPage), .val (.int fill), .val (.int (own_m a)), .val (.int (own_m b)), .val (.int (if (flags &&& (1 : Int32)) = (0 : Int32) then (0 : Int32) else 1)), .val (.ref b1), .val .null, .val (.ref b11), .val (.int (2 : Int32)), .unset, .unset, .unset, .unset] [])) t_
        refine XS.iconst X12.here hx rfl (hb hby at_94) ?_
        show Steps p_.tables e_ below (T12.setTop (mkF m_ 95 #[.val (.int a), .val (.int b), .val (.int flags), .val (.int ovLen), .val (.int ovPage), .val (.int fill), .val (.int (own_m a)), .val (.int (own_m b)), .val (.int (if (flags &&& (1 : Int32)) = (0 : Int32) then (0 : Int32) else 1)), .val (.ref b1), .val .null, .val (.ref b11), .val (.int (2 : Int32)), .unset, .unset, .unset, .unset] [(.int (2 : Int32))])) t_
        refine XS.istore X12.here hx rfl (hb hby at_95) rfl (l' := #[.val (.int a), .val (.int b), .val (.int flags), .val (.int ovLen), .val (.int ovPage), .val (.int fill), .val (.int (own_m a)), .val (.int (own_m b)), .val (.int (if (flags &&& (1 : Int32)) = (0 : Int32) then (0 : Int32) else 1)), .val (.ref b1), .val .null, .val (.ref b11), .val (.int (2 : Int32)), .val (.int (2 : Int32)), .unset, .unset, .unset]) rfl ?_
        show Steps p_.tables e_ below (T12.setTop (mkF m_ 97 #[.val (.int a), .val (.int b), .val (.int flags), .val (.int ovLen), .val (.int ovPage), .val (.int fill), .val (.int (own_m a)), .val (.int (own_m b)), .val (.int (if (flags &&& (1 : Int32)) = (0 : Int32) then (0 : Int32) else 1)), .val (.ref b1), .val .null, .val (.ref b11), .val (.int (2 : Int32)), .val (.int (2 : Int32)), .unset, .unset, .unset] [])) t_
        refine XS.iconst X12.here hx rfl (hb hby at_97) ?_
        show Steps p_.tables e_ below (T12.setTop (mkF m_ 98 #[.val (.int a), .val (.int b), .val (.int flags), .val (.int ovLen), .val (.int ovPage), .val (.int fill), .val (.int (own_m a)), .val (.int (own_m b)), .val (.int (if (flags &&& (1 : Int32)) = (0 : Int32) then (0 : Int32) else 1)), .val (.ref b1), .val .null, .val (.ref b11), .val (.int (2 : Int32)), .val (.int (2 : Int32)), .unset, .unset, .unset] [(.int (2 : Int32))])) t_
        refine XS.istore X12.here hx rfl (hb hby at_98) rfl (l' := #[.val (.int a), .val (.int b), .val (.int flags), .val (.int ovLen), .val (.int ovPage), .val (.int fill), .val (.int (own_m a)), .val (.int (own_m b)), .val (.int (if (flags &&& (1 : Int32)) = (0 : Int32) then (0 : Int32) else 1)), .val (.ref b1), .val .null, .val (.ref b11), .val (.int (2 : Int32)), .val (.int (2 : Int32)), .val (.int (2 : Int32)), .unset, .unset]) rfl ?_
        show Steps p_.tables e_ below (T12.setTop (mkF m_ 100 #[.val (.int a), .val (.int b), .val (.int flags), .val (.int ovLen), .val (.int ovPage), .val (.int fill), .val (.int (own_m a)), .val (.int (own_m b)), .val (.int (if (flags &&& (1 : Int32)) = (0 : Int32) then (0 : Int32) else 1)), .val (.ref b1), .val .null, .val (.ref b11), .val (.int (2 : Int32)), .val (.int (2 : Int32)), .val (.int (2 : Int32)), .unset, .unset] [])) t_
        refine XS.iload X12.here hx rfl (hb hby at_100) rfl ?_
        show Steps p_.tables e_ below (T12.setTop (mkF m_ 102 #[.val (.int a), .val (.int b), .val (.int flags), .val (.int ovLen), .val (.int ovPage), .val (.int fill), .val (.int (own_m a)), .val (.int (own_m b)), .val (.int (if (flags &&& (1 : Int32)) = (0 : Int32) then (0 : Int32) else 1)), .val (.ref b1), .val .null, .val (.ref b11), .val (.int (2 : Int32)), .val (.int (2 : Int32)), .val (.int (2 : Int32)), .unset, .unset] [(.int (if (flags &&& (1 : Int32)) = (0 : Int32) then (0 : Int32) else 1))])) t_
        refine XS.ifNo X12.here hx rfl (hb hby at_102) rfl ((if0 _ _).trans (feq (own_nf (hc48 : ¬ ((flags &&& (1 : Int32)) = (0 : Int32))))).1) ?_
        show Steps p_.tables e_ below (T12.setTop (mkF m_ 105 #[.val (.int a), .val (.int b), .val (.int flags), .val (.int ovLen), .val (.int ovPage), .val (.int fill), .val (.int (own_m a)), .val (.int (own_m b)), .val (.int (if (flags &&& (1 : Int32)) = (0 : Int32) then (0 : Int32) else 1)), .val (.ref b1), .val .null, .val (.ref b11), .val (.int (2 : Int32)), .val (.int (2 : Int32)), .val (.int (2 : Int32)), .unset, .unset] [])) t_
        refine XS.bipush X12.here hx rfl (hb hby at_105) ?_
        show Steps p_.tables e_ below (T12.setTop (mkF m_ 107 #[.val (.int a), .val (.int b), .val (.int flags), .val (.int ovLen), .val (.int ovPage), .val (.int fill), .val (.int (own_m a)), .val (.int (own_m b)), .val (.int (if (flags &&& (1 : Int32)) = (0 : Int32) then (0 : Int32) else 1)), .val (.ref b1), .val .null, .val (.ref b11), .val (.int (2 : Int32)), .val (.int (2 : Int32)), .val (.int (2 : Int32)), .unset, .unset] [(.int (8 : Int32))])) t_
        refine XS.istore X12.here hx rfl (hb hby at_107) rfl (l' := #[.val (.int a), .val (.int b), .val (.int flags), .val (.int ovLen), .val (.int ovPage), .val (.int fill), .val (.int (own_m a)), .val (.int (own_m b)), .val (.int (if (flags &&& (1 : Int32)) = (0 : Int32) then (0 : Int32) else 1)), .val (.ref b1), .val .null, .val (.ref b11), .val (.int (2 : Int32)), .val (.int (2 : Int32)), .val (.int (2 : Int32)), .val (.int (8 : Int32)), .unset]) rfl ?_
        show Steps p_.tables e_ below (T12.setTop (mkF m_ 109 #[.val (.int a), .val (.int b), .val (.int flags), .val (.int ovLen), .val (.int ovPage), .val (.int fill), .val (.int (own_m a)), .val (.int (own_m b)), .val (.int (if (flags &&& (1 : Int32)) = (0 : Int32) then (0 : Int32) else 1)), .val (.ref b1), .val .null, .val (.ref b11), .val (.int (2 : Int32)), .val (.int (2 : Int32)), .val (.int (2 : Int32)), .val (.int (8 : Int32)), .unset] [])) t_
        refine XS.goto X12.here hx rfl (pc0 := 109) (pc' := 116) rfl (hb hby at_109) (by decide) (by decide) ?_
        show Steps p_.tables e_ below (T12.setTop (mkF m_ 116 #[.val (.int a), .val (.int b), .val (.int flags), .val (.int ovLen), .val (.int ovPage), .val (.int fill), .val (.int (own_m a)), .val (.int (own_m b)), .val (.int (if (flags &&& (1 : Int32)) = (0 : Int32) then (0 : Int32) else 1)), .val (.ref b1), .val .null, .val (.ref b11), .val (.int (2 : Int32)), .val (.int (2 : Int32)), .val (.int (2 : Int32)), .val (.int (8 : Int32)), .unset] [])) t_
        refine XS.iload X12.here hx rfl (hb hby at_116) rfl ?_
        show Steps p_.tables e_ below (T12.setTop (mkF m_ 118 #[.val (.int a), .val (.int b), .val (.int flags), .val (.int ovLen), .val (.int ovPage), .val (.int fill), .val (.int (own_m a)), .val (.int (own_m b)), .val (.int (if (flags &&& (1 : Int32)) = (0 : Int32) then (0 : Int32) else 1)), .val (.ref b1), .val .null, .val (.ref b11), .val (.int (2 : Int32)), .val (.int (2 : Int32)), .val (.int (2 : Int32)), .val (.int (8 : Int32)), .unset] [(.int (2 : Int32))])) t_
        refine XS.iload X12.here hx rfl (hb hby at_118) rfl ?_
        show Steps p_.tables e_ below (T12.setTop (mkF m_ 120 #[.val (.int a), .val (.int b), .val (.int flags), .val (.int ovLen), .val (.int ovPage), .val (.int fill), .val (.int (own_m a)), .val (.int (own_m b)), .val (.int (if (flags &&& (1 : Int32)) = (0 : Int32) then (0 : Int32) else 1)), .val (.ref b1), .val .null, .val (.ref b11), .val (.int (2 : Int32)), .val (.int (2 : Int32)), .val (.int (2 : Int32)), .val (.int (8 : Int32)), .unset] [(.int (2 : Int32)), (.int (2 : Int32))])) t_
        refine XS.iadd X12.here hx rfl (hb hby at_120) rfl ?_
        show Steps p_.tables e_ below (T12.setTop (mkF m_ 121 #[.val (.int a), .val (.int b), .val (.int flags), .val (.int ovLen), .val (.int ovPage), .val (.int fill), .val (.int (own_m a)), .val (.int (own_m b)), .val (.int (if (flags &&& (1 : Int32)) = (0 : Int32) then (0 : Int32) else 1)), .val (.ref b1), .val .null, .val (.ref b11), .val (.int (2 : Int32)), .val (.int (2 : Int32)), .val (.int (2 : Int32)), .val (.int (8 : Int32)), .unset] [(.int (4 : Int32))])) t_
        refine XS.iload X12.here hx rfl (hb hby at_121) rfl ?_
        show Steps p_.tables e_ below (T12.setTop (mkF m_ 123 #[.val (.int a), .val (.int b), .val (.int flags), .val (.int ovLen), .val (.int ovPage), .val (.int fill), .val (.int (own_m a)), .val (.int (own_m b)), .val (.int (if (flags &&& (1 : Int32)) = (0 : Int32) then (0 : Int32) else 1)), .val (.ref b1), .val .null, .val (.ref b11), .val (.int (2 : Int32)), .val (.int (2 : Int32)), .val (.int (2 : Int32)), .val (.int (8 : Int32)), .unset] [(.int (2 : Int32)), (.int (4 : Int32))])) t_
        refine XS.iadd X12.here hx rfl (hb hby at_123) rfl ?_
        show Steps p_.tables e_ below (T12.setTop (mkF m_ 124 #[.val (.int a), .val (.int b), .val (.int flags), .val (.int ovLen), .val (.int ovPage), .val (.int fill), .val (.int (own_m a)), .val (.int (own_m b)), .val (.int (if (flags &&& (1 : Int32)) = (0 : Int32) then (0 : Int32) else 1)), .val (.ref b1), .val .null, .val (.ref b11), .val (.int (2 : Int32)), .val (.int (2 : Int32)), .val (.int (2 : Int32)), .val (.int (8 : Int32)), .unset] [(.int (6 : Int32))])) t_
        refine XS.iload X12.here hx rfl (hb hby at_124) rfl ?_
        show Steps p_.tables e_ below (T12.setTop (mkF m_ 126 #[.val (.int a), .val (.int b), .val (.int flags), .val (.int ovLen), .val (.int ovPage), .val (.int fill), .val (.int (own_m a)), .val (.int (own_m b)), .val (.int (if (flags &&& (1 : Int32)) = (0 : Int32) then (0 : Int32) else 1)), .val (.ref b1), .val .null, .val (.ref b11), .val (.int (2 : Int32)), .val (.int (2 : Int32)), .val (.int (2 : Int32)), .val (.int (8 : Int32)), .unset] [(.int (own_m a)), (.int (6 : Int32))])) t_
        refine XS.iadd X12.here hx rfl (hb hby at_126) rfl ?_
        show Steps p_.tables e_ below (T12.setTop (mkF m_ 127 #[.val (.int a), .val (.int b), .val (.int flags), .val (.int ovLen), .val (.int ovPage), .val (.int fill), .val (.int (own_m a)), .val (.int (own_m b)), .val (.int (if (flags &&& (1 : Int32)) = (0 : Int32) then (0 : Int32) else 1)), .val (.ref b1), .val .null, .val (.ref b11), .val (.int (2 : Int32)), .val (.int (2 : Int32)), .val (.int (2 : Int32)), .val (.int (8 : Int32)), .unset] [(.int ((6 : Int32) + (own_m a)))])) t_
        refine XS.iload X12.here hx rfl (hb hby at_127) rfl ?_
        show Steps p_.tables e_ below (T12.setTop (mkF m_ 129 #[.val (.int a), .val (.int b), .val (.int flags), .val (.int ovLen), .val (.int ovPage), .val (.int fill), .val (.int (own_m a)), .val (.int (own_m b)), .val (.int (if (flags &&& (1 : Int32)) = (0 : Int32) then (0 : Int32) else 1)), .val (.ref b1), .val .null, .val (.ref b11), .val (.int (2 : Int32)), .val (.int (2 : Int32)), .val (.int (2 : Int32)), .val (.int (8 : Int32)), .unset] [(.int (8 : Int32)), (.int ((6 : Int32) + (own_m a)))])) t_
        refine XS.iadd X12.here hx rfl (hb hby at_129) rfl ?_
        show Steps p_.tables e_ below (T12.setTop (mkF m_ 130 #[.val (.int a), .val (.int b), .val (.int flags), .val (.int ovLen), .val (.int ovPage), .val (.int fill), .val (.int (own_m a)), .val (.int (own_m b)), .val (.int (if (flags &&& (1 : Int32)) = (0 : Int32) then (0 : Int32) else 1)), .val (.ref b1), .val .null, .val (.ref b11), .val (.int (2 : Int32)), .val (.int (2 : Int32)), .val (.int (2 : Int32)), .val (.int (8 : Int32)), .unset] [(.int (((6 : Int32) + (own_m a)) + (8 : Int32)))])) t_
        refine XS.istore X12.here hx rfl (hb hby at_130) rfl (l' := #[.val (.int a), .val (.int b), .val (.int flags), .val (.int ovLen), .val (.int ovPage), .val (.int fill), .val (.int (own_m a)), .val (.int (own_m b)), .val (.int (if (flags &&& (1 : Int32)) = (0 : Int32) then (0 : Int32) else 1)), .val (.ref b1), .val .null, .val (.ref b11), .val (.int (2 : Int32)), .val (.int (2 : Int32)), .val (.int (2 : Int32)), .val (.int (8 : Int32)), .val (.int (((6 : Int32) + (own_m a)) + (8 : Int32)))]) rfl ?_
        show Steps p_.tables e_ below (T12.setTop (mkF m_ 132 #[.val (.int a), .val (.int b), .val (.int flags), .val (.int ovLen), .val (.int ovPage), .val (.int fill), .val (.int (own_m a)), .val (.int (own_m b)), .val (.int (if (flags &&& (1 : Int32)) = (0 : Int32) then (0 : Int32) else 1)), .val (.ref b1), .val .null, .val (.ref b11), .val (.int (2 : Int32)), .val (.int (2 : Int32)), .val (.int (2 : Int32)), .val (.int (8 : Int32)), .val (.int (((6 : Int32) + (own_m a)) + (8 : Int32)))] [])) t_
        refine XS.aload X12.here hx rfl (hb hby at_132) rfl rfl ?_
        show Steps p_.tables e_ below (T12.setTop (mkF m_ 134 #[.val (.int a), .val (.int b), .val (.int flags), .val (.int ovLen), .val (.int ovPage), .val (.int fill), .val (.int (own_m a)), .val (.int (own_m b)), .val (.int (if (flags &&& (1 : Int32)) = (0 : Int32) then (0 : Int32) else 1)), .val (.ref b1), .val .null, .val (.ref b11), .val (.int (2 : Int32)), .val (.int (2 : Int32)), .val (.int (2 : Int32)), .val (.int (8 : Int32)), .val (.int (((6 : Int32) + (own_m a)) + (8 : Int32)))] [(.ref b11)])) t_
        exact k_
      refine own_callV X12 hx hZ (y := (⟨"com/example/varrowkeep/varrowkeep/storage/Node$LeafCell", "size", "()I"⟩ : MethodName)) (z := (⟨"com/example/varrowkeep/varrowkeep/storage/Node$LeafCell", "size", "()I"⟩ : MethodName)) hown (hw _ (List.mem_of_getElem? (i := 23) rfl)) (hw _ (List.mem_of_getElem? (i := 24) rfl)) (notFace_of_selects (args := #[]) (mvT hZ (hw _ (List.mem_of_getElem? (i := 26) rfl)))) (hw _ (List.mem_of_getElem? (i := 26) rfl)) (hw _ (List.mem_of_getElem? (i := 25) rfl)) (hw _ (List.mem_of_getElem? (i := 3) rfl)) (hw _ (List.mem_of_getElem? (i := 27) rfl)) (by decide) b11 [] [] E_b11 (rm4n l Z a0 hw b11 b1 k1 k1 (own_mn a) (own_mn a) _ (fun _ => .null) (own_m a) (own_m a) T12.heap n0 Z0 F_key_b11 F_value_b11 A_b1 (own_m1 a) ) 0 (by decide) (by decide) rfl (by rw [hml]; rfl) (lenOf own_pd2 rfl) rfl (Nat.le_of_eq rfl) (hb hby at_134) (by decide) (by decide) ?_
      intro v13 T13 L13 X13 q13
      obtain ⟨rfl, N13q, e13⟩ := q13
      have N13 := Fr.app N12 N13q
      show own_Out p_ e_ below s_ _ _ _ T13 (mkF m_ 137 #[.val (.int a), .val (.int b), .val (.int flags), .val (.int ovLen), .val (.int ovPage), .val (.int fill), .val (.int (own_m a)), .val (.int (own_m b)), .val (.int (if (flags &&& (1 : Int32)) = (0 : Int32) then (0 : Int32) else 1)), .val (.ref b1), .val .null, .val (.ref b11), .val (.int (2 : Int32)), .val (.int (2 : Int32)), .val (.int (2 : Int32)), .val (.int (8 : Int32)), .val (.int (((6 : Int32) + (own_m a)) + (8 : Int32)))] [(.int (((6 : Int32) + (own_m a)) + (8 : Int32)))])
      refine own_st T13 (mkF m_ 147 #[.val (.int a), .val (.int b), .val (.int flags), .val (.int ovLen), .val (.int ovPage), .val (.int fill), .val (.int (own_m a)), .val (.int (own_m b)), .val (.int (if (flags &&& (1 : Int32)) = (0 : Int32) then (0 : Int32) else 1)), .val (.ref b1), .val .null, .val (.ref b11), .val (.int (2 : Int32)), .val (.int (2 : Int32)), .val (.int (2 : Int32)), .val (.int (8 : Int32)), .val (.int (((6 : Int32) + (own_m a)) + (8 : Int32)))] [(.int (1 : Int32))]) (fun t_ k_ => ?_) ?_
      · refine XS.iload X13.here hx rfl (hb hby at_137) rfl ?_
        show Steps p_.tables e_ below (T13.setTop (mkF m_ 139 #[.val (.int a), .val (.int b), .val (.int flags), .val (.int ovLen), .val (.int ovPage), .val (.int fill), .val (.int (own_m a)), .val (.int (own_m b)), .val (.int (if (flags &&& (1 : Int32)) = (0 : Int32) then (0 : Int32) else 1)), .val (.ref b1), .val .null, .val (.ref b11), .val (.int (2 : Int32)), .val (.int (2 : Int32)), .val (.int (2 : Int32)), .val (.int (8 : Int32)), .val (.int (((6 : Int32) + (own_m a)) + (8 : Int32)))] [(.int (((6 : Int32) + (own_m a)) + (8 : Int32))), (.int (((6 : Int32) + (own_m a)) + (8 : Int32)))])) t_
        refine XS.icmpNo X13.here hx rfl (hb hby at_139) rfl (teq (rfl : (((6 : Int32) + (own_m a)) + (8 : Int32)) = (((6 : Int32) + (own_m a)) + (8 : Int32)))).2 ?_
        show Steps p_.tables e_ below (T13.setTop (mkF m_ 142 #[.val (.int a), .val (.int b), .val (.int flags), .val (.int ovLen), .val (.int ovPage), .val (.int fill), .val (.int (own_m a)), .val (.int (own_m b)), .val (.int (if (flags &&& (1 : Int32)) = (0 : Int32) then (0 : Int32) else 1)), .val (.ref b1), .val .null, .val (.ref b11), .val (.int (2 : Int32)), .val (.int (2 : Int32)), .val (.int (2 : Int32)), .val (.int (8 : Int32)), .val (.int (((6 : Int32) + (own_m a)) + (8 : Int32)))] [])) t_
        refine XS.iconst X13.here hx rfl (hb hby at_142) ?_
        show Steps p_.tables e_ below (T13.setTop (mkF m_ 143 #[.val (.int a), .val (.int b), .val (.int flags), .val (.int ovLen), .val (.int ovPage), .val (.int fill), .val (.int (own_m a)), .val (.int (own_m b)), .val (.int (if (flags &&& (1 : Int32)) = (0 : Int32) then (0 : Int32) else 1)), .val (.ref b1), .val .null, .val (.ref b11), .val (.int (2 : Int32)), .val (.int (2 : Int32)), .val (.int (2 : Int32)), .val (.int (8 : Int32)), .val (.int (((6 : Int32) + (own_m a)) + (8 : Int32)))] [(.int (1 : Int32))])) t_
        refine XS.goto X13.here hx rfl (pc0 := 143) (pc' := 147) rfl (hb hby at_143) (by decide) (by decide) ?_
        show Steps p_.tables e_ below (T13.setTop (mkF m_ 147 #[.val (.int a), .val (.int b), .val (.int flags), .val (.int ovLen), .val (.int ovPage), .val (.int fill), .val (.int (own_m a)), .val (.int (own_m b)), .val (.int (if (flags &&& (1 : Int32)) = (0 : Int32) then (0 : Int32) else 1)), .val (.ref b1), .val .null, .val (.ref b11), .val (.int (2 : Int32)), .val (.int (2 : Int32)), .val (.int (2 : Int32)), .val (.int (8 : Int32)), .val (.int (((6 : Int32) + (own_m a)) + (8 : Int32)))] [(.int (1 : Int32))])) t_
        exact k_
      refine own_retN X13 hx hlk (t := .boolean) hret (by simp) (hb hby at_147) (by decide) (by decide) ?_
      exact ⟨rfl, N13⟩
  · refine own_st T1 (mkF m_ 43 #[.val (.int a), .val (.int b), .val (.int flags), .val (.int ovLen), .val (.int ovPage), .val (.int fill), .val (.int (own_m a)), .val (.int (own_m b)), .val (.int (if (flags &&& (1 : Int32)) = (0 : Int32) then (0 : Int32) else 1)), .val (.ref b1), .unset, .unset, .unset, .unset, .unset, .unset, .unset] []) (fun t_ k_ => XS.ifYes X1.here hx rfl (pc0 := 33) (pc' := 43) rfl (hb hby at_33) rfl ((if0 _ _).trans (flt hc33).2.2.2) (by decide) (by decide) k_) ?_
    refine own_st T1 (mkF m_ 48 #[.val (.int a), .val (.int b), .val (.int flags), .val (.int ovLen), .val (.int ovPage), .val (.int fill), .val (.int (own_m a)), .val (.int (own_m b)), .val (.int (if (flags &&& (1 : Int32)) = (0 : Int32) then (0 : Int32) else 1)), .val (.ref b1), .val .null, .unset, .unset, .unset, .unset, .unset, .unset] [(.int (if (flags &&& (1 : Int32)) = (0 : Int32) then (0 : Int32) else 1))]) (fun t_ k_ => ?_) ?_
    · refine XS.aconstNull X1.here hx rfl (hb hby at_43) ?_
      show Steps p_.tables e_ below (T1.setTop (mkF m_ 44 #[.val (.int a), .val (.int b), .val (.int flags), .val (.int ovLen), .val (.int ovPage), .val (.int fill), .val (.int (own_m a)), .val (.int (own_m b)), .val (.int (if (flags &&& (1 : Int32)) = (0 : Int32) then (0 : Int32) else 1)), .val (.ref b1), .unset, .unset, .unset, .unset, .unset, .unset, .unset] [.null])) t_
      refine XS.astore X1.here hx rfl (hb hby at_44) rfl rfl (l' := #[.val (.int a), .val (.int b), .val (.int flags), .val (.int ovLen), .val (.int ovPage), .val (.int fill), .val (.int (own_m a)), .val (.int (own_m b)), .val (.int (if (flags &&& (1 : Int32)) = (0 : Int32) then (0 : Int32) else 1)), .val (.ref b1), .val .null, .unset, .unset, .unset, .unset, .unset, .unset]) rfl ?_
      show Steps p_.tables e_ below (T1.setTop (mkF m_ 46 #[.val (.int a), .val (.int b), .val (.int flags), .val (.int ovLen), .val (.int ovPage), .val (.int fill), .val (.int (own_m a)), .val (.int (own_m b)), .val (.int (if (flags &&& (1 : Int32)) = (0 : Int32) then (0 : Int32) else 1)), .val (.ref b1), .val .null, .unset, .unset, .unset, .unset, .unset, .unset] [])) t_
      refine XS.iload X1.here hx rfl (hb hby at_46) rfl ?_
      show Steps p_.tables e_ below (T1.setTop (mkF m_ 48 #[.val (.int a), .val (.int b), .val (.int flags), .val (.int ovLen), .val (.int ovPage), .val (.int fill), .val (.int (own_m a)), .val (.int (own_m b)), .val (.int (if (flags &&& (1 : Int32)) = (0 : Int32) then (0 : Int32) else 1)), .val (.ref b1), .val .null, .unset, .unset, .unset, .unset, .unset, .unset] [(.int (if (flags &&& (1 : Int32)) = (0 : Int32) then (0 : Int32) else 1))])) t_
      exact k_
    by_cases hc48 : (flags &&& (1 : Int32)) = (0 : Int32)
    · refine own_st T1 (mkF m_ 51 #[.val (.int a), .val (.int b), .val (.int flags), .val (.int ovLen), .val (.int ovPage), .val (.int fill), .val (.int (own_m a)), .val (.int (own_m b)), .val (.int (if (flags &&& (1 : Int32)) = (0 : Int32) then (0 : Int32) else 1)), .val (.ref b1), .val .null, .unset, .unset, .unset, .unset, .unset, .unset] []) (fun t_ k_ => XS.ifNo X1.here hx rfl (hb hby at_48) rfl ((if0 _ _).trans (teq (own_nt hc48)).2) k_) ?_
      refine own_st T1 (mkF m_ 53 #[.val (.int a), .val (.int b), .val (.int flags), .val (.int ovLen), .val (.int ovPage), .val (.int fill), .val (.int (own_m a)), .val (.int (own_m b)), .val (.int (if (flags &&& (1 : Int32)) = (0 : Int32) then (0 : Int32) else 1)), .val (.ref b1), .val .null, .unset, .unset, .unset, .unset, .unset, .unset] [(.int (own_m b))]) (fun t_ k_ => ?_) ?_
      · refine XS.iload X1.here hx rfl (hb hby at_51) rfl ?_
        show Steps p_.tables e_ below (T1.setTop (mkF m_ 53 #[.val (.int a), .val (.int b), .val (.int flags), .val (.int ovLen), .val (.int ovPage), .val (.int fill), .val (.int (own_m a)), .val (.int (own_m b)), .val (.int (if (flags &&& (1 : Int32)) = (0 : Int32) then (0 : Int32) else 1)), .val (.ref b1), .val .null, .unset, .unset, .unset, .unset, .unset, .unset] [(.int (own_m b))])) t_
        exact k_
      obtain ⟨T14, h14, k14, X14, e14, E14, A14, st14⟩ := newP X1 hx hZ (hw _ (List.mem_of_getElem? (i := 0) rfl)) e1 (g := (mkF m_ 53 #[.val (.int a), .val (.int b), .val (.int flags), .val (.int ovLen), .val (.int ovPage), .val (.int fill), .val (.int (own_m a)), .val (.int (own_m b)), .val (.int (if (flags &&& (1 : Int32)) = (0 : Int32) then (0 : Int32) else 1)), .val (.ref b1), .val .null, .unset, .unset, .unset, .unset, .unset, .unset] [(.int (own_m b))])) rfl (hb hby at_53) rfl (own_m3 b) (cap := 15) (own_m4 b) (by decide) (by decide) (by decide)
      obtain ⟨b14, g14⟩ : ∃ z, z = h1.size := ⟨_, rfl⟩
      rw [← g14] at A14 st14
      have g_b14 : n0 ≤ b14 := g14 ▸ Z0
      have ne_b1_b14 : b1 ≠ b14 := Nat.ne_of_lt (Nat.lt_of_lt_of_le A_b1.lt (Nat.le_of_eq g14.symm))
      replace A_b1 := A_b1.ext E14
      replace Z0 : n0 ≤ h14.size := Nat.le_trans Z0 E14.1
      have A_b14 : own_A Z h14 b14 k14 .byte (own_mn b) (fun _ => .int 0) := own_A.newI A14 (own_m3 b) (own_mn b) rfl rfl
      refine own_st T14 (mkF m_ 55 #[.val (.int a), .val (.int b), .val (.int flags), .val (.int ovLen), .val (.int ovPage), .val (.int fill), .val (.int (own_m a)), .val (.int (own_m b)), .val (.int (if (flags &&& (1 : Int32)) = (0 : Int32) then (0 : Int32) else 1)), .val (.ref b1), .val .null, .unset, .unset, .unset, .unset, .unset, .unset] [(.ref b14)]) st14 ?_
      refine own_st T14 (mkF m_ 59 #[.val (.int a), .val (.int b), .val (.int flags), .val (.int ovLen), .val (.int ovPage), .val (.int fill), .val (.int (own_m a)), .val (.int (own_m b)), .val (.int (if (flags &&& (1 : Int32)) = (0 : Int32) then (0 : Int32) else 1)), .val (.ref b1), .val (.ref b14), .unset, .unset, .unset, .unset, .unset, .unset] [(.int (own_m b))]) (fun t_ k_ => ?_) ?_
      · refine XS.astore X14.here hx rfl (hb hby at_55) rfl rfl (l' := #[.val (.int a), .val (.int b), .val (.int flags), .val (.int ovLen), .val (.int ovPage), .val (.int fill), .val (.int (own_m a)), .val (.int (own_m b)), .val (.int (if (flags &&& (1 : Int32)) = (0 : Int32) then (0 : Int32) else 1)), .val (.ref b1), .val (.ref b14), .unset, .unset, .unset, .unset, .unset, .unset]) rfl ?_
        show Steps p_.tables e_ below (T14.setTop (mkF m_ 57 #[.val (.int a), .val (.int b), .val (.int flags), .val (.int ovLen), .val (.int ovPage), .val (.int fill), .val (.int (own_m a)), .val (.int (own_m b)), .val (.int (if (flags &&& (1 : Int32)) = (0 : Int32) then (0 : Int32) else 1)), .val (.ref b1), .val (.ref b14), .unset, .unset, .unset, .unset, .unset, .unset] [])) t_
        refine XS.iload X14.here hx rfl (hb hby at_57) rfl ?_
        show Steps p_.tables e_ below (T14.setTop (mkF m_ 59 #[.val (.int a), .val (.int b), .val (.int flags), .val (.int ovLen), .val (.int ovPage), .val (.int fill), .val (.int (own_m a)), .val (.int (own_m b)), .val (.int (if (flags &&& (1 : Int32)) = (0 : Int32) then (0 : Int32) else 1)), .val (.ref b1), .val (.ref b14), .unset, .unset, .unset, .unset, .unset, .unset] [(.int (own_m b))])) t_
        exact k_
      by_cases hc59 : (0 : Int32) < (own_m b)
      · refine own_st T14 (mkF m_ 62 #[.val (.int a), .val (.int b), .val (.int flags), .val (.int ovLen), .val (.int ovPage), .val (.int fill), .val (.int (own_m a)), .val (.int (own_m b)), .val (.int (if (flags &&& (1 : Int32)) = (0 : Int32) then (0 : Int32) else 1)), .val (.ref b1), .val (.ref b14), .unset, .unset, .unset, .unset, .unset, .unset] []) (fun t_ k_ => XS.ifNo X14.here hx rfl (hb hby at_59) rfl ((if0 _ _).trans (tlt hc59).2.2.2) k_) ?_
        refine own_st T14 (mkF m_ 74 #[.val (.int a), .val (.int b), .val (.int flags), .val (.int ovLen), .val (.int ovPage), .val (.int fill), .val (.int (own_m a)), .val (.int (own_m b)), .val (.int (if (flags &&& (1 : Int32)) = (0 : Int32) then (0 : Int32) else 1)), .val (.ref b1), .val (.ref b14), .unset, .unset, .unset, .unset, .unset, .unset] [(.int ((fill >>> ((8 : Int32) &&& 31)).toInt8.toInt32)), (.int ((own_m b) - (1 : Int32))), (.ref b14)]) (fun t_ k_ => ?_) ?_
        · refine XS.aload X14.here hx rfl (hb hby at_62) rfl rfl ?_
          show Steps p_.tables e_ below (T14.setTop (mkF m_ 64 #[.val (.int a), .val (.int b), .val (.int flags), .val (.int ovLen), .val (.int ovPage), .val (.int fill), .val (.int (own_m a)), .val (.int (own_m b)), .val (.int (if (flags &&& (1 : Int32)) = (0 : Int32) then (0 : Int32) else 1)), .val (.ref b1), .val (.ref b14), .unset, .unset, .unset, .unset, .unset, .unset] [(.ref b14)])) t_
          refine XS.iload X14.here hx rfl (hb hby at_64) rfl ?_
          show Steps p_.tables e_ below (T14.setTop (mkF m_ 66 #[.val (.int a), .val (.int b), .val (.int flags), .val (.int ovLen), .val (.int ovPage), .val (.int fill), .val (.int (own_m a)), .val (.int (own_m b)), .val (.int (if (flags &&& (1 : Int32)) = (0 : Int32) then (0 : Int32) else 1)), .val (.ref b1), .val (.ref b14), .unset, .unset, .unset, .unset, .unset, .unset] [(.int (own_m b)), (.ref b14)])) t_
          refine XS.iconst X14.here hx rfl (hb hby at_66) ?_
          show Steps p_.tables e_ below (T14.setTop (mkF m_ 67 #[.val (.int a), .val (.int b), .val (.int flags), .val (.int ovLen), .val (.int ovPage), .val (.int fill), .val (.int (own_m a)), .val (.int (own_m b)), .val (.int (if (flags &&& (1 : Int32)) = (0 : Int32) then (0 : Int32) else 1)), .val (.ref b1), .val (.ref b14), .unset, .unset, .unset, .unset, .unset, .unset] [(.int (1 : Int32)), (.int (own_m b)), (.ref b14)])) t_
          refine XS.isub X14.here hx rfl (hb hby at_67) rfl ?_
          show Steps p_.tables e_ below (T14.setTop (mkF m_ 68 #[.val (.int a), .val (.int b), .val (.int flags), .val (.int ovLen), .val (.int ovPage), .val (.int fill), .val (.int (own_m a)), .val (.int (own_m b)), .val (.int (if (flags &&& (1 : Int32)) = (0 : Int32) then (0 : Int32) else 1)), .val (.ref b1), .val (.ref b14), .unset, .unset, .unset, .unset, .unset, .unset] [(.int ((own_m b) - (1 : Int32))), (.ref b14)])) t_
          refine XS.iload X14.here hx rfl (hb hby at_68) rfl ?_
          show Steps p_.tables e_ below (T14.setTop (mkF m_ 70 #[.val (.int a), .val (.int b), .val (.int flags), .val (.int ovLen), .val (.int ovPage), .val (.int fill), .val (.int (own_m a)), .val (.int (own_m b)), .val (.int (if (flags &&& (1 : Int32)) = (0 : Int32) then (0 : Int32) else 1)), .val (.ref b1), .val (.ref b14), .unset, .unset, .unset, .unset, .unset, .unset] [(.int fill), (.int ((own_m b) - (1 : Int32))), (.ref b14)])) t_
          refine XS.bipush X14.here hx rfl (hb hby at_70) ?_
          show Steps p_.tables e_ below (T14.setTop (mkF m_ 72 #[.val (.int a), .val (.int b), .val (.int flags), .val (.int ovLen), .val (.int ovPage), .val (.int fill), .val (.int (own_m a)), .val (.int (own_m b)), .val (.int (if (flags &&& (1 : Int32)) = (0 : Int32) then (0 : Int32) else 1)), .val (.ref b1), .val (.ref b14), .unset, .unset, .unset, .unset, .unset, .unset] [(.int (8 : Int32)), (.int fill), (.int ((own_m b) - (1 : Int32))), (.ref b14)])) t_
          refine XS.ishr X14.here hx rfl (hb hby at_72) rfl ?_
          show Steps p_.tables e_ below (T14.setTop (mkF m_ 73 #[.val (.int a), .val (.int b), .val (.int flags), .val (.int ovLen), .val (.int ovPage), .val (.int fill), .val (.int (own_m a)), .val (.int (own_m b)), .val (.int (if (flags &&& (1 : Int32)) = (0 : Int32) then (0 : Int32) else 1)), .val (.ref b1), .val (.ref b14), .unset, .unset, .unset, .unset, .unset, .unset] [(.int (fill >>> ((8 : Int32) &&& 31))), (.int ((own_m b) - (1 : Int32))), (.ref b14)])) t_
          refine XS.i2b X14.here hx rfl (hb hby at_73) rfl ?_
          show Steps p_.tables e_ below (T14.setTop (mkF m_ 74 #[.val (.int a), .val (.int b), .val (.int flags), .val (.int ovLen), .val (.int ovPage), .val (.int fill), .val (.int (own_m a)), .val (.int (own_m b)), .val (.int (if (flags &&& (1 : Int32)) = (0 : Int32) then (0 : Int32) else 1)), .val (.ref b1), .val (.ref b14), .unset, .unset, .unset, .unset, .unset, .unset] [(.int ((fill >>> ((8 : Int32) &&& 31)).toInt8.toInt32)), (.int ((own_m b) - (1 : Int32))), (.ref b14)])) t_
          exact k_
        obtain ⟨T15, h15, X15, e15, W15, st15⟩ := own_stB X14 hx hZ e14 A_b14 ((fill >>> ((8 : Int32) &&& 31)).toInt8.toInt32) (own_nb _) (own_mn b - 1) (own_m5 hc59) (by have := own_m2 hc59; omega) (j := ((own_m b) - (1 : Int32))) (x := ((fill >>> ((8 : Int32) &&& 31)).toInt8.toInt32)) (Ls := #[.val (.int a), .val (.int b), .val (.int flags), .val (.int ovLen), .val (.int ovPage), .val (.int fill), .val (.int (own_m a)), .val (.int (own_m b)), .val (.int (if (flags &&& (1 : Int32)) = (0 : Int32) then (0 : Int32) else 1)), .val (.ref b1), .val (.ref b14), .unset, .unset, .unset, .unset, .unset, .unset]) (rest := []) (hb hby at_74)
        have N15 := Fr.snoc X15 N0 g_b14
        replace Z0 : n0 ≤ h15.size := W15.size ▸ Z0
        replace A_b1 := A_b1.other W15 ne_b1_b14
        replace A_b14 : own_A Z h15 b14 k14 .byte (own_mn b) (fun x => .int (if x = (own_mn b - 1) then ((fill >>> ((8 : Int32) &&& 31)).toInt8.toInt32) else (0 : Int32))) := A_b14.setI (by have := own_m2 hc59; omega) W15
        refine own_st T15 (mkF m_ 75 #[.val (.int a), .val (.int b), .val (.int flags), .val (.int ovLen), .val (.int ovPage), .val (.int fill), .val (.int (own_m a)), .val (.int (own_m b)), .val (.int (if (flags &&& (1 : Int32)) = (0 : Int32) then (0 : Int32) else 1)), .val (.ref b1), .val (.ref b14), .unset, .unset, .unset, .unset, .unset, .unset] []) st15 ?_
        obtain ⟨T16, h16, X16, e16, E16, A16, D16, -, st16⟩ := newO X15 hx hZ hown (hw _ (List.mem_of_getElem? (i := 1) rfl)) (hw _ (List.mem_of_getElem? (i := 2) rfl)) (hw _ (List.mem_of_getElem? (i := 3) rfl)) e15 (g := (mkF m_ 75 #[.val (.int a), .val (.int b), .val (.int flags), .val (.int ovLen), .val (.int ovPage), .val (.int fill), .val (.int (own_m a)), .val (.int (own_m b)), .val (.int (if (flags &&& (1 : Int32)) = (0 : Int32) then (0 : Int32) else 1)), .val (.ref b1), .val (.ref b14), .unset, .unset, .unset, .unset, .unset, .unset] [])) rfl (hb hby at_75) (by decide) (by decide)
        obtain ⟨b16, g16⟩ : ∃ z, z = h15.size := ⟨_, rfl⟩
        rw [← g16] at A16 D16 st16
        have g_b16 : n0 ≤ b16 := g16 ▸ Z0
        have ne_b1_b16 : b1 ≠ b16 := Nat.ne_of_lt (Nat.lt_of_lt_of_le A_b1.lt (Nat.le_of_eq g16.symm))
        have ne_b14_b16 : b14 ≠ b16 := Nat.ne_of_lt (Nat.lt_of_lt_of_le A_b14.lt (Nat.le_of_eq g16.symm))
        replace A_b1 := A_b1.ext E16
        replace A_b14 := A_b14.ext E16
        replace Z0 : n0 ≤ h16.size := Nat.le_trans Z0 E16.1
        have F_key_b16 : Fld Z h16 b16 "com/example/varrowkeep/varrowkeep/storage/Node$LeafCell" "key" "[B" .null := D16 (Or.inr (hw _ (List.mem_of_getElem? (i := 16) rfl))) (ty := (.array .byte)) (by decide)
        have F_value_b16 : Fld Z h16 b16 "com/example/varrowkeep/varrowkeep/storage/Node$LeafCell" "value" "[B" .null := D16 (Or.inr (hw _ (List.mem_of_getElem? (i := 18) rfl))) (ty := (.array .byte)) (by decide)
        have F_overflowLength_b16 : Fld Z h16 b16 "com/example/varrowkeep/varrowkeep/storage/Node$LeafCell" "overflowLength" "I" (.int (0 : Int32)) := D16 (Or.inr (hw _ (List.mem_of_getElem? (i := 20) rfl))) (ty := .int) (by decide)
        have F_overflowPage_b16 : Fld Z h16 b16 "com/example/varrowkeep/varrowkeep/storage/Node$LeafCell" "overflowPage" "I" (.int (0 : Int32)) := D16 (Or.inr (hw _ (List.mem_of_getElem? (i := 22) rfl))) (ty := .int) (by decide)
        have E_b16 := A16
        refine own_st T16 (mkF m_ 78 #[.val (.int a), .val (.int b), .val (.int flags), .val (.int ovLen), .val (.int ovPage), .val (.int fill), .val (.int (own_m a)), .val (.int (own_m b)), .val (.int (if (flags &&& (1 : Int32)) = (0 : Int32) then (0 : Int32) else 1)), .val (.ref b1), .val (.ref b14), .unset, .unset, .unset, .unset, .unset, .unset] [(.ref b16)]) st16 ?_
        refine own_st T16 (mkF m_ 86 #[.val (.int a), .val (.int b), .val (.int flags), .val (.int ovLen), .val (.int ovPage), .val (.int fill), .val (.int (own_m a)), .val (.int (own_m b)), .val (.int (if (flags &&& (1 : Int32)) = (0 : Int32) then (0 : Int32) else 1)), .val (.ref b1), .val (.ref b14), .unset, .unset, .unset, .unset, .unset, .unset] [(.int ovPage), (.int ovLen), (.ref b14), (.ref b1), (.ref b16), (.ref b16)]) (fun t_ k_ => ?_) ?_
        · refine XS.dup X16.here hx rfl (hb hby at_78) rfl rfl ?_
          show Steps p_.tables e_ below (T16.setTop (mkF m_ 79 #[.val (.int a), .val (.int b), .val (.int flags), .val (.int ovLen), .val (.int ovPage), .val (.int fill), .val (.int (own_m a)), .val (.int (own_m b)), .val (.int (if (flags &&& (1 : Int32)) = (0 : Int32) then (0 : Int32) else 1)), .val (.ref b1), .val (.ref b14), .unset, .unset, .unset, .unset, .unset, .unset] [(.ref b16), (.ref b16)])) t_
          refine XS.aload X16.here hx rfl (hb hby at_79) rfl rfl ?_
          show Steps p_.tables e_ below (T16.setTop (mkF m_ 81 #[.val (.int a), .val (.int b), .val (.int flags), .val (.int ovLen), .val (.int ovPage), .val (.int fill), .val (.int (own_m a)), .val (.int (own_m b)), .val (.int (if (flags &&& (1 : Int32)) = (0 : Int32) then (0 : Int32) else 1)), .val (.ref b1), .val (.ref b14), .unset, .unset, .unset, .unset, .unset, .unset] [(.ref b1), (.ref b16), (.ref b16)])) t_
          refine XS.aload X16.here hx rfl (hb hby at_81) rfl rfl ?_
          show Steps p_.tables e_ below (T16.setTop (mkF m_ 83 #[.val (.int a), .val (.int b), .val (.int flags), .val (.int ovLen), .val (.int ovPage), .val (.int fill), .val (.int (own_m a)), .val (.int (own_m b)), .val (.int (if (flags &&& (1 : Int32)) = (0 : Int32) then (0 : Int32) else 1)), .val (.ref b1), .val (.ref b14), .unset, .unset, .unset, .unset, .unset, .unset] [(.ref b14), (.ref b1), (.ref b16), (.ref b16)])) t_
          refine XS.iloadN X16.here hx rfl (hb hby at_83) rfl ?_
          show Steps p_.tables e_ below (T16.setTop (mkF m_ 84 #[.val (.int a), .val (.int b), .val (.int flags), .val (.int ovLen), .val (.int ovPage), .val (.int fill), .val (.int (own_m a)), .val (.int (own_m b)), .val (.int (if (flags &&& (1 : Int32)) = (0 : Int32) then (0 : Int32) else 1)), .val (.ref b1), .val (.ref b14), .unset, .unset, .unset, .unset, .unset, .unset] [(.int ovLen), (.ref b14), (.ref b1), (.ref b16), (.ref b16)])) t_
          refine XS.iload X16.here hx rfl (hb hby at_84) rfl ?_
          show Steps p_.tables e_ below (T16.setTop (mkF m_ 86 #[.val (.int a), .val (.int b), .val (.int flags), .val (.int ovLen), .val (.int ovPage), .val (.int fill), .val (.int (own_m a)), .val (.int (own_m b)), .val (.int (if (flags &&& (1 : Int32)) = (0 : Int32) then (0 : Int32) else 1)), .val (.ref b1), .val (.ref b14), .unset, .unset, .unset, .unset, .unset, .unset] [(.int ovPage), (.int ovLen), (.ref b14), (.ref b1), (.ref b16), (.ref b16)])) t_
          exact k_
        refine own_callC X16 hx hZ rfl hown (hw _ (List.mem_of_getElem? (i := 4) rfl)) (hw _ (List.mem_of_getElem? (i := 5) rfl)) (hw _ (List.mem_of_getElem? (i := 3) rfl)) (hw _ (List.mem_of_getElem? (i := 6) rfl)) (by decide) b16 [(.ref b1), (.ref b14), (.int ovLen), (.int ovPage)] [(.ref b16)] (rm1 l Z a0 hw b16 b1 b14 ovLen ovPage h16 n0 Z0 E_b16 F_key_b16 F_value_b16 F_overflowLength_b16 F_overflowPage_b16 g_b16) 1 (by decide) (by decide) e16 (by rw [hml]; rfl) (lenOf own_pd1 rfl) rfl (Nat.le_of_eq rfl) (hb hby at_86) (by decide) (by decide) ?_
        intro v17 T17 L17 X17 q17
        obtain ⟨rfl, N17q, K17, Eq17, Fq17_key, Fq17_value, Fq17_overflowLength, Fq17_overflowPage⟩ := q17
        have N17 := Fr.app N15 N17q
        replace A_b1 := A_b1.keep K17 (ninS ne_b1_b16 nin0)
        replace A_b14 := A_b14.keep K17 (ninS ne_b14_b16 nin0)
        -- F_key_b16 is dropped: written by the callee
        -- F_value_b16 is dropped: written by the callee
        -- F_overflowLength_b16 is dropped: written by the callee
        -- F_overflowPage_b16 is dropped: written by the callee
        replace E_b16 := E_b16.keep K17
        replace Z0 : n0 ≤ T17.heap.size := Nat.le_trans Z0 K17.1
        have F_key_b16 := Fq17_key
        have F_value_b16 := Fq17_value
        have F_overflowLength_b16 := Fq17_overflowLength
        have F_overflowPage_b16 := Fq17_overflowPage
        show own_Out p_ e_ below s_ _ _ _ T17 (mkF m_ 89 #[.val (.int a), .val (.int b), .val (.int flags), .val (.int ovLen), .val (.int ovPage), .val (.int fill), .val (.int (own_m a)), .val (.int (own_m b)), .val (.int (if (flags &&& (1 : Int32)) = (0 : Int32) then (0 : Int32) else 1)), .val (.ref b1), .val (.ref b14), .unset, .unset, .unset, .unset, .unset, .unset] [(.ref b16)])
        refine own_st T17 (mkF m_ 134 #[.val (.int a), .val (.int b), .val (.int flags), .val (.int ovLen), .val (.int ovPage), .val (.int fill), .val (.int (own_m a)), .val (.int (own_m b)), .val (.int (if (flags &&& (1 : Int32)) = (0 : Int32) then (0 : Int32) else 1)), .val (.ref b1), .val (.ref b14), .val (.ref b16), .val (.int (2 : Int32)), .val (.int (2 : Int32)), .val (.int (2 : Int32)), .val (.int (own_m b)), .val (.int (((6 : Int32) + (own_m a)) + (own_m b)))] [(.ref b16)]) (fun t_ k_ => ?_) ?_
        · refine XS.astore X17.here hx rfl (hb hby at_89) rfl rfl (l' := #[.val (.int a), .val (.int b), .val (.int flags), .val (.int ovLen), .val (.int ovPage), .val (.int fill), .val (.int (own_m a)), .val (.int (own_m b)), .val (.int (if (flags &&& (1 : Int32)) = (0 : Int32) then (0 : Int32) else 1)), .val (.ref b1), .val (.ref b14), .val (.ref b16), .unset, .unset, .unset, .unset, .unset]) rfl ?_
          show Steps p_.tables e_ below (T17.setTop (mkF m_ 91 #[.val (.int a), .val (.int b), .val (.int flags), .val (.int ovLen), .val (.int ovPage), .val (.int fill), .val (.int (own_m a)), .val (.int (own_m b)), .val (.int (if (flags &&& (1 : Int32)) = (0 : Int32) then (0 : Int32) else 1)), .val (.ref b1), .val (.ref b14), .val (.ref b16), .unset, .unset, .unset, .unset, .unset] [])) t_
          refine XS.iconst X17.here hx rfl (hb hby at_91) ?_
          show Steps p_.tables e_ below (T17.setTop (mkF m_ 92 #[.val (.int a), .val (.int b), .val (.int flags), .val (.int ovLen), .val (.int ovPage), .val (.int fill), .val (.int (own_m a)), .val (.int (own_m b)), .val (.int (if (flags &&& (1 : Int32)) = (0 : Int32) then (0 : Int32) else 1)), .val (.ref b1), .val (.ref b14), .val (.ref b16), .unset, .unset, .unset, .unset, .unset] [(.int (2 : Int32))])) t_
          refine XS.istore X17.here hx rfl (hb hby at_92) rfl (l' := #[.val (.int a), .val (.int b), .val (.int flags), .val (.int ovLen), .val (.int ovPage), .val (.int fill), .val (.int (own_m a)), .val (.int (own_m b)), .val (.int (if (flags &&& (1 : Int32)) = (0 : Int32) then (0 : Int32) else 1)), .val (.ref b1), .val (.ref b14), .val (.ref b16), .val (.int (2 : Int32)), .unset, .unset, .unset, .unset]) rfl ?_
          show Steps p_.tables e_ below (T17.setTop (mkF m_ 94 #[.val (.int a), .val (.int b), .val (.int flags), .val (.int ovLen), .val (.int ovPage), .val (.int fill), .val (.int (own_m a)), .val (.int (own_m b)), .val (.int (if (flags &&& (1 : Int32)) = (0 : Int32) then (0 : Int32) else 1)), .val (.ref b1), .val (.ref b14), .val (.ref b16), .val (.int (2 : Int32)), .unset, .unset, .unset, .unset] [])) t_
          refine XS.iconst X17.here hx rfl (hb hby at_94) ?_
          show Steps p_.tables e_ below (T17.setTop (mkF m_ 95 #[.val (.int a), .val (.int b), .val (.int flags), .val (.int ovLen), .val (.int ovPage), .val (.int fill), .val (.int (own_m a)), .val (.int (own_m b)), .val (.int (if (flags &&& (1 : Int32)) = (0 : Int32) then (0 : Int32) else 1)), .val (.ref b1), .val (.ref b14), .val (.ref b16), .val (.int (2 : Int32)), .unset, .unset, .unset, .unset] [(.int (2 : Int32))])) t_
          refine XS.istore X17.here hx rfl (hb hby at_95) rfl (l' := #[.val (.int a), .val (.int b), .val (.int flags), .val (.int ovLen), .val (.int ovPage), .val (.int fill), .val (.int (own_m a)), .val (.int (own_m b)), .val (.int (if (flags &&& (1 : Int32)) = (0 : Int32) then (0 : Int32) else 1)), .val (.ref b1), .val (.ref b14), .val (.ref b16), .val (.int (2 : Int32)), .val (.int (2 : Int32)), .unset, .unset, .unset]) rfl ?_
          show Steps p_.tables e_ below (T17.setTop (mkF m_ 97 #[.val (.int a), .val (.int b), .val (.int flags), .val (.int ovLen), .val (.int ovPage), .val (.int fill), .val (.int (own_m a)), .val (.int (own_m b)), .val (.int (if (flags &&& (1 : Int32)) = (0 : Int32) then (0 : Int32) else 1)), .val (.ref b1), .val (.ref b14), .val (.ref b16), .val (.int (2 : Int32)), .val (.int (2 : Int32)), .unset, .unset, .unset] [])) t_
          refine XS.iconst X17.here hx rfl (hb hby at_97) ?_
          show Steps p_.tables e_ below (T17.setTop (mkF m_ 98 #[.val (.int a), .val (.int b), .val (.int flags), .val (.int ovLen), .val (.int ovPage), .val (.int fill), .val (.int (own_m a)), .val (.int (own_m b)), .val (.int (if (flags &&& (1 : Int32)) = (0 : Int32) then (0 : Int32) else 1)), .val (.ref b1), .val (.ref b14), .val (.ref b16), .val (.int (2 : Int32)), .val (.int (2 : Int32)), .unset, .unset, .unset] [(.int (2 : Int32))])) t_
          refine XS.istore X17.here hx rfl (hb hby at_98) rfl (l' := #[.val (.int a), .val (.int b), .val (.int flags), .val (.int ovLen), .val (.int ovPage), .val (.int fill), .val (.int (own_m a)), .val (.int (own_m b)), .val (.int (if (flags &&& (1 : Int32)) = (0 : Int32) then (0 : Int32) else 1)), .val (.ref b1), .val (.ref b14), .val (.ref b16), .val (.int (2 : Int32)), .val (.int (2 : Int32)), .val (.int (2 : Int32)), .unset, .unset]) rfl ?_
          show Steps p_.tables e_ below (T17.setTop (mkF m_ 100 #[.val (.int a), .val (.int b), .val (.int flags), .val (.int ovLen), .val (.int ovPage), .val (.int fill), .val (.int (own_m a)), .val (.int (own_m b)), .val (.int (if (flags &&& (1 : Int32)) = (0 : Int32) then (0 : Int32) else 1)), .val (.ref b1), .val (.ref b14), .val (.ref b16), .val (.int (2 : Int32)), .val (.int (2 : Int32)), .val (.int (2 : Int32)), .unset, .unset] [])) t_
          refine XS.iload X17.here hx rfl (hb hby at_100) rfl ?_
          show Steps p_.tables e_ below (T17.setTop (mkF m_ 102 #[.val (.int a), .val (.int b), .val (.int flags), .val (.int ovLen), .val (.int ovPage), .val (.int fill), .val (.int (own_m a)), .val (.int (own_m b)), .val (.int (if (flags &&& (1 : Int32)) = (0 : Int32) then (0 : Int32) else 1)), .val (.ref b1), .val (.ref b14), .val (.ref b16), .val (.int (2 : Int32)), .val (.int (2 : Int32)), .val (.int (2 : Int32)), .unset, .unset] [(.int (if (flags &&& (1 : Int32)) = (0 : Int32) then (0 : Int32) else 1))])) t_
          refine XS.ifYes X17.here hx rfl (pc0 := 102) (pc' := 112) rfl (hb hby at_102) rfl ((if0 _ _).trans (teq (own_nt (hc48 : (flags &&& (1 : Int32)) = (0 : Int32)))).1) (by decide) (by decide) ?_
          show Steps p_.tables e_ below (T17.setTop (mkF m_ 112 #[.val (.int a), .val (.int b), .val (.int flags), .val (.int ovLen), .val (.int ovPage), .val (.int fill), .val (.int (own_m a)), .val (.int (own_m b)), .val (.int (if (flags &&& (1 : Int32)) = (0 : Int32) then (0 : Int32) else 1)), .val (.ref b1), .val (.ref b14), .val (.ref b16), .val (.int (2 : Int32)), .val (.int (2 : Int32)), .val (.int (2 : Int32)), .unset, .unset] [])) t_
          refine XS.iload X17.here hx rfl (hb hby at_112) rfl ?_
          show Steps p_.tables e_ below (T17.setTop (mkF m_ 114 #[.val (.int a), .val (.int b), .val (.int flags), .val (.int ovLen), .val (.int ovPage), .val (.int fill), .val (.int (own_m a)), .val (.int (own_m b)), .val (.int (if (flags &&& (1 : Int32)) = (0 : Int32) then (0 : Int32) else 1)), .val (.ref b1), .val (.ref b14), .val (.ref b16), .val (.int (2 : Int32)), .val (.int (2 : Int32)), .val (.int (2 : Int32)), .unset, .unset] [(.int (own_m b))])) t_
          refine XS.istore X17.here hx rfl (hb hby at_114) rfl (l' := #[.val (.int a), .val (.int b), .val (.int flags), .val (.int ovLen), .val (.int ovPage), .val (.int fill), .val (.int (own_m a)), .val (.int (own_m b)), .val (.int (if (flags &&& (1 : Int32)) = (0 : Int32) then (0 : Int32) else 1)), .val (.ref b1), .val (.ref b14), .val (.ref b16), .val (.int (2 : Int32)), .val (.int (2 : Int32)), .val (.int (2 : Int32)), .val (.int (own_m b)), .unset]) rfl ?_
          show Steps p_.tables e_ below (T17.setTop (mkF m_ 116 #[.val (.int a), .val (.int b), .val (.int flags), .val (.int ovLen), .val (.int ovPage), .val (.int fill), .val (.int (own_m a)), .val (.int (own_m b)), .val (.int (if (flags &&& (1 : Int32)) = (0 : Int32) then (0 : Int32) else 1)), .val (.ref b1), .val (.ref b14), .val (.ref b16), .val (.int (2 : Int32)), .val (.int (2 : Int32)), .val (.int (2 : Int32)), .val (.int (own_m b)), .unset] [])) t_
          refine XS.iload X17.here hx rfl (hb hby at_116) rfl ?_
          show Steps p_.tables e_ below (T17.setTop (mkF m_ 118 #[.val (.int a), .val (.int b), .val (.int flags), .val (.int ovLen), .val (.int ovPage), .val (.int fill), .val (.int (own_m a)), .val (.int (own_m b)), .val (.int (if (flags &&& (1 : Int32)) = (0 : Int32) then (0 : Int32) else 1)), .val (.ref b1), .val (.ref b14), .val (.ref b16), .val (.int (2 : Int32)), .val (.int (2 : Int32)), .val (.int (2 : Int32)), .val (.int (own_m b)), .unset] [(.int (2 : Int32))])) t_
          refine XS.iload X17.here hx rfl (hb hby at_118) rfl ?_
          show Steps p_.tables e_ below (T17.setTop (mkF m_ 120 #[.val (.int a), .val (.int b), .val (.int flags), .val (.int ovLen), .val (.int ovPage), .val (.int fill), .val (.int (own_m a)), .val (.int (own_m b)), .val (.int (if (flags &&& (1 : Int32)) = (0 : Int32) then (0 : Int32) else 1)), .val (.ref b1), .val (.ref b14), .val (.ref b16), .val (.int (2 : Int32)), .val (.int (2 : Int32)), .val (.int (2 : Int32)), .val (.int (own_m b)), .unset] [(.int (2 : Int32)), (.int (2 : Int32))])) t_
          refine XS.iadd X17.here hx rfl (hb hby at_120) rfl ?_
          show Steps p_.tables e_ below (T17.setTop (mkF m_ 121 #[.val (.int a), .val (.int b), .val (.int flags), .val (.int ovLen), .val (.int ovPage), .val (.int fill), .val (.int (own_m a)), .val (.int (own_m b)), .val (.int (if (flags &&& (1 : Int32)) = (0 : Int32) then (0 : Int32) else 1)), .val (.ref b1), .val (.ref b14), .val (.ref b16), .val (.int (2 : Int32)), .val (.int (2 : Int32)), .val (.int (2 : Int32)), .val (.int (own_m b)), .unset] [(.int (4 : Int32))])) t_
          refine XS.iload X17.here hx rfl (hb hby at_121) rfl ?_
          show Steps p_.tables e_ below (T17.setTop (mkF m_ 123 #[.val (.int a), .val (.int b), .val (.int flags), .val (.int ovLen), .val (.int ovPage), .val (.int fill), .val (.int (own_m a)), .val (.int (own_m b)), .val (.int (if (flags &&& (1 : Int32)) = (0 : Int32) then (0 : Int32) else 1)), .val (.ref b1), .val (.ref b14), .val (.ref b16), .val (.int (2 : Int32)), .val (.int (2 : Int32)), .val (.int (2 : Int32)), .val (.int (own_m b)), .unset] [(.int (2 : Int32)), (.int (4 : Int32))])) t_
          refine XS.iadd X17.here hx rfl (hb hby at_123) rfl ?_
          show Steps p_.tables e_ below (T17.setTop (mkF m_ 124 #[.val (.int a), .val (.int b), .val (.int flags), .val (.int ovLen), .val (.int ovPage), .val (.int fill), .val (.int (own_m a)), .val (.int (own_m b)), .val (.int (if (flags &&& (1 : Int32)) = (0 : Int32) then (0 : Int32) else 1)), .val (.ref b1), .val (.ref b14), .val (.ref b16), .val (.int (2 : Int32)), .val (.int (2 : Int32)), .val (.int (2 : Int32)), .val (.int (own_m b)), .unset] [(.int (6 : Int32))])) t_
          refine XS.iload X17.here hx rfl (hb hby at_124) rfl ?_
          show Steps p_.tables e_ below (T17.setTop (mkF m_ 126 #[.val (.int a), .val (.int b), .val (.int flags), .val (.int ovLen), .val (.int ovPage), .val (.int fill), .val (.int (own_m a)), .val (.int (own_m b)), .val (.int (if (flags &&& (1 : Int32)) = (0 : Int32) then (0 : Int32) else 1)), .val (.ref b1), .val (.ref b14), .val (.ref b16), .val (.int (2 : Int32)), .val (.int (2 : Int32)), .val (.int (2 : Int32)), .val (.int (own_m b)), .unset] [(.int (own_m a)), (.int (6 : Int32))])) t_
          refine XS.iadd X17.here hx rfl (hb hby at_126) rfl ?_
          show Steps p_.tables e_ below (T17.setTop (mkF m_ 127 #[.val (.int a), .val (.int b), .val (.int flags), .val (.int ovLen), .val (.int ovPage), .val (.int fill), .val (.int (own_m a)), .val (.int (own_m b)), .val (.int (if (flags &&& (1 : Int32)) = (0 : Int32) then (0 : Int32) else 1)), .val (.ref b1), .val (.ref b14), .val (.ref b16), .val (.int (2 : Int32)), .val (.int (2 : Int32)), .val (.int (2 : Int32)), .val (.int (own_m b)), .unset] [(.int ((6 : Int32) + (own_m a)))])) t_
          refine XS.iload X17.here hx rfl (hb hby at_127) rfl ?_
          show Steps p_.tables e_ below (T17.setTop (mkF m_ 129 #[.val (.int a), .val (.int b), .val (.int flags), .val (.int ovLen), .val (.int ovPage), .val (.int fill), .val (.int (own_m a)), .val (.int (own_m b)), .val (.int (if (flags &&& (1 : Int32)) = (0 : Int32) then (0 : Int32) else 1)), .val (.ref b1), .val (.ref b14), .val (.ref b16), .val (.int (2 : Int32)), .val (.int (2 : Int32)), .val (.int (2 : Int32)), .val (.int (own_m b)), .unset] [(.int (own_m b)), (.int ((6 : Int32) + (own_m a)))])) t_
          refine XS.iadd X17.here hx rfl (hb hby at_129) rfl ?_
          show Steps p_.tables e_ below (T17.setTop (mkF m_ 130 #[.val (.int a), .val (.int b), .val (.int flags), .val (.int ovLen), .val (.int ovPage), .val (.int fill), .val (.int (own_m a)), .val (.int (own_m b)), .val (.int (if (flags &&& (1 : Int32)) = (0 : Int32) then (0 : Int32) else 1)), .val (.ref b1), .val (.ref b14), .val (.ref b16), .val (.int (2 : Int32)), .val (.int (2 : Int32)), .val (.int (2 : Int32)), .val (.int (own_m b)), .unset] [(.int (((6 : Int32) + (own_m a)) + (own_m b)))])) t_
          refine XS.istore X17.here hx rfl (hb hby at_130) rfl (l' := #[.val (.int a), .val (.int b), .val (.int flags), .val (.int ovLen), .val (.int ovPage), .val (.int fill), .val (.int (own_m a)), .val (.int (own_m b)), .val (.int (if (flags &&& (1 : Int32)) = (0 : Int32) then (0 : Int32) else 1)), .val (.ref b1), .val (.ref b14), .val (.ref b16), .val (.int (2 : Int32)), .val (.int (2 : Int32)), .val (.int (2 : Int32)), .val (.int (own_m b)), .val (.int (((6 : Int32) + (own_m a)) + (own_m b)))]) rfl ?_
          show Steps p_.tables e_ below (T17.setTop (mkF m_ 132 #[.val (.int a), .val (.int b), .val (.int flags), .val (.int ovLen), .val (.int ovPage), .val (.int fill), .val (.int (own_m a)), .val (.int (own_m b)), .val (.int (if (flags &&& (1 : Int32)) = (0 : Int32) then (0 : Int32) else 1)), .val (.ref b1), .val (.ref b14), .val (.ref b16), .val (.int (2 : Int32)), .val (.int (2 : Int32)), .val (.int (2 : Int32)), .val (.int (own_m b)), .val (.int (((6 : Int32) + (own_m a)) + (own_m b)))] [])) t_
          refine XS.aload X17.here hx rfl (hb hby at_132) rfl rfl ?_
          show Steps p_.tables e_ below (T17.setTop (mkF m_ 134 #[.val (.int a), .val (.int b), .val (.int flags), .val (.int ovLen), .val (.int ovPage), .val (.int fill), .val (.int (own_m a)), .val (.int (own_m b)), .val (.int (if (flags &&& (1 : Int32)) = (0 : Int32) then (0 : Int32) else 1)), .val (.ref b1), .val (.ref b14), .val (.ref b16), .val (.int (2 : Int32)), .val (.int (2 : Int32)), .val (.int (2 : Int32)), .val (.int (own_m b)), .val (.int (((6 : Int32) + (own_m a)) + (own_m b)))] [(.ref b16)])) t_
          exact k_
        refine own_callV X17 hx hZ (y := (⟨"com/example/varrowkeep/varrowkeep/storage/Node$LeafCell", "size", "()I"⟩ : MethodName)) (z := (⟨"com/example/varrowkeep/varrowkeep/storage/Node$LeafCell", "size", "()I"⟩ : MethodName)) hown (hw _ (List.mem_of_getElem? (i := 23) rfl)) (hw _ (List.mem_of_getElem? (i := 24) rfl)) (notFace_of_selects (args := #[]) (mvT hZ (hw _ (List.mem_of_getElem? (i := 26) rfl)))) (hw _ (List.mem_of_getElem? (i := 26) rfl)) (hw _ (List.mem_of_getElem? (i := 25) rfl)) (hw _ (List.mem_of_getElem? (i := 3) rfl)) (hw _ (List.mem_of_getElem? (i := 27) rfl)) (by decide) b16 [] [] E_b16 (rm4 l Z a0 hw b16 b1 b14 k1 k14 (own_mn a) (own_mn b) _ _ (own_m a) (own_m b) T17.heap n0 Z0 F_key_b16 F_value_b16 A_b1 (own_m1 a) A_b14 (own_m1 b)) 0 (by decide) (by decide) rfl (by rw [hml]; rfl) (lenOf own_pd2 rfl) rfl (Nat.le_of_eq rfl) (hb hby at_134) (by decide) (by decide) ?_
        intro v18 T18 L18 X18 q18
        obtain ⟨rfl, N18q, e18⟩ := q18
        have N18 := Fr.app N17 N18q
        show own_Out p_ e_ below s_ _ _ _ T18 (mkF m_ 137 #[.val (.int a), .val (.int b), .val (.int flags), .val (.int ovLen), .val (.int ovPage), .val (.int fill), .val (.int (own_m a)), .val (.int (own_m b)), .val (.int (if (flags &&& (1 : Int32)) = (0 : Int32) then (0 : Int32) else 1)), .val (.ref b1), .val (.ref b14), .val (.ref b16), .val (.int (2 : Int32)), .val (.int (2 : Int32)), .val (.int (2 : Int32)), .val (.int (own_m b)), .val (.int (((6 : Int32) + (own_m a)) + (own_m b)))] [(.int (((6 : Int32) + (own_m a)) + (own_m b)))])
        refine own_st T18 (mkF m_ 147 #[.val (.int a), .val (.int b), .val (.int flags), .val (.int ovLen), .val (.int ovPage), .val (.int fill), .val (.int (own_m a)), .val (.int (own_m b)), .val (.int (if (flags &&& (1 : Int32)) = (0 : Int32) then (0 : Int32) else 1)), .val (.ref b1), .val (.ref b14), .val (.ref b16), .val (.int (2 : Int32)), .val (.int (2 : Int32)), .val (.int (2 : Int32)), .val (.int (own_m b)), .val (.int (((6 : Int32) + (own_m a)) + (own_m b)))] [(.int (1 : Int32))]) (fun t_ k_ => ?_) ?_
        · refine XS.iload X18.here hx rfl (hb hby at_137) rfl ?_
          show Steps p_.tables e_ below (T18.setTop (mkF m_ 139 #[.val (.int a), .val (.int b), .val (.int flags), .val (.int ovLen), .val (.int ovPage), .val (.int fill), .val (.int (own_m a)), .val (.int (own_m b)), .val (.int (if (flags &&& (1 : Int32)) = (0 : Int32) then (0 : Int32) else 1)), .val (.ref b1), .val (.ref b14), .val (.ref b16), .val (.int (2 : Int32)), .val (.int (2 : Int32)), .val (.int (2 : Int32)), .val (.int (own_m b)), .val (.int (((6 : Int32) + (own_m a)) + (own_m b)))] [(.int (((6 : Int32) + (own_m a)) + (own_m b))), (.int (((6 : Int32) + (own_m a)) + (own_m b)))])) t_
          refine XS.icmpNo X18.here hx rfl (hb hby at_139) rfl (teq (rfl : (((6 : Int32) + (own_m a)) + (own_m b)) = (((6 : Int32) + (own_m a)) + (own_m b)))).2 ?_
          show Steps p_.tables e_ below (T18.setTop (mkF m_ 142 #[.val (.int a), .val (.int b), .val (.int flags), .val (.int ovLen), .val (.int ovPage), .val (.int fill), .val (.int (own_m a)), .val (.int (own_m b)), .val (.int (if (flags &&& (1 : Int32)) = (0 : Int32) then (0 : Int32) else 1)), .val (.ref b1), .val (.ref b14), .val (.ref b16), .val (.int (2 : Int32)), .val (.int (2 : Int32)), .val (.int (2 : Int32)), .val (.int (own_m b)), .val (.int (((6 : Int32) + (own_m a)) + (own_m b)))] [])) t_
          refine XS.iconst X18.here hx rfl (hb hby at_142) ?_
          show Steps p_.tables e_ below (T18.setTop (mkF m_ 143 #[.val (.int a), .val (.int b), .val (.int flags), .val (.int ovLen), .val (.int ovPage), .val (.int fill), .val (.int (own_m a)), .val (.int (own_m b)), .val (.int (if (flags &&& (1 : Int32)) = (0 : Int32) then (0 : Int32) else 1)), .val (.ref b1), .val (.ref b14), .val (.ref b16), .val (.int (2 : Int32)), .val (.int (2 : Int32)), .val (.int (2 : Int32)), .val (.int (own_m b)), .val (.int (((6 : Int32) + (own_m a)) + (own_m b)))] [(.int (1 : Int32))])) t_
          refine XS.goto X18.here hx rfl (pc0 := 143) (pc' := 147) rfl (hb hby at_143) (by decide) (by decide) ?_
          show Steps p_.tables e_ below (T18.setTop (mkF m_ 147 #[.val (.int a), .val (.int b), .val (.int flags), .val (.int ovLen), .val (.int ovPage), .val (.int fill), .val (.int (own_m a)), .val (.int (own_m b)), .val (.int (if (flags &&& (1 : Int32)) = (0 : Int32) then (0 : Int32) else 1)), .val (.ref b1), .val (.ref b14), .val (.ref b16), .val (.int (2 : Int32)), .val (.int (2 : Int32)), .val (.int (2 : Int32)), .val (.int (own_m b)), .val (.int (((6 : Int32) + (own_m a)) + (own_m b)))] [(.int (1 : Int32))])) t_
          exact k_
        refine own_retN X18 hx hlk (t := .boolean) hret (by simp) (hb hby at_147) (by decide) (by decide) ?_
        exact ⟨rfl, N18⟩
      · refine own_st T14 (mkF m_ 75 #[.val (.int a), .val (.int b), .val (.int flags), .val (.int ovLen), .val (.int ovPage), .val (.int fill), .val (.int (own_m a)), .val (.int (own_m b)), .val (.int (if (flags &&& (1 : Int32)) = (0 : Int32) then (0 : Int32) else 1)), .val (.ref b1), .val (.ref b14), .unset, .unset, .unset, .unset, .unset, .unset] []) (fun t_ k_ => XS.ifYes X14.here hx rfl (pc0 := 59) (pc' := 75) rfl (hb hby at_59) rfl ((if0 _ _).trans (flt hc59).2.2.2) (by decide) (by decide) k_) ?_
        obtain ⟨T19, h19, X19, e19, E19, A19, D19, -, st19⟩ := newO X14 hx hZ hown (hw _ (List.mem_of_getElem? (i := 1) rfl)) (hw _ (List.mem_of_getElem? (i := 2) rfl)) (hw _ (List.mem_of_getElem? (i := 3) rfl)) e14 (g := (mkF m_ 75 #[.val (.int a), .val (.int b), .val (.int flags), .val (.int ovLen), .val (.int ovPage), .val (.int fill), .val (.int (own_m a)), .val (.int (own_m b)), .val (.int (if (flags &&& (1 : Int32)) = (0 : Int32) then (0 : Int32) else 1)), .val (.ref b1), .val (.ref b14), .unset, .unset, .unset, .unset, .unset, .unset] [])) rfl (hb hby at_75) (by decide) (by decide)
        obtain ⟨b19, g19⟩ : ∃ z, z = h14.size := ⟨_, rfl⟩
        rw [← g19] at A19 D19 st19
        have g_b19 : n0 ≤ b19 := g19 ▸ Z0
        have ne_b1_b19 : b1 ≠ b19 := Nat.ne_of_lt (Nat.lt_of_lt_of_le A_b1.lt (Nat.le_of_eq g19.symm))
        have ne_b14_b19 : b14 ≠ b19 := Nat.ne_of_lt (Nat.lt_of_lt_of_le A_b14.lt (Nat.le_of_eq g19.symm))
        replace A_b1 := A_b1.ext E19
        replace A_b14 := A_b14.ext E19
        replace Z0 : n0 ≤ h19.size := Nat.le_trans Z0 E19.1
        have F_key_b19 : Fld Z h19 b19 "com/example/varrowkeep/varrowkeep/storage/Node$LeafCell" "key" "[B" .null := D19 (Or.inr (hw _ (List.mem_of_getElem? (i := 16) rfl))) (ty := (.array .byte)) (by decide)
        have F_value_b19 : Fld Z h19 b19 "com/example/varrowkeep/varrowkeep/storage/Node$LeafCell" "value" "[B" .null := D19 (Or.inr (hw _ (List.mem_of_getElem? (i := 18) rfl))) (ty := (.array .byte)) (by decide)
        have F_overflowLength_b19 : Fld Z h19 b19 "com/example/varrowkeep/varrowkeep/storage/Node$LeafCell" "overflowLength" "I" (.int (0 : Int32)) := D19 (Or.inr (hw _ (List.mem_of_getElem? (i := 20) rfl))) (ty := .int) (by decide)
        have F_overflowPage_b19 : Fld Z h19 b19 "com/example/varrowkeep/varrowkeep/storage/Node$LeafCell" "overflowPage" "I" (.int (0 : Int32)) := D19 (Or.inr (hw _ (List.mem_of_getElem? (i := 22) rfl))) (ty := .int) (by decide)
        have E_b19 := A19
        refine own_st T19 (mkF m_ 78 #[.val (.int a), .val (.int b), .val (.int flags), .val (.int ovLen), .val (.int ovPage), .val (.int fill), .val (.int (own_m a)), .val (.int (own_m b)), .val (.int (if (flags &&& (1 : Int32)) = (0 : Int32) then (0 : Int32) else 1)), .val (.ref b1), .val (.ref b14), .unset, .unset, .unset, .unset, .unset, .unset] [(.ref b19)]) st19 ?_
        refine own_st T19 (mkF m_ 86 #[.val (.int a), .val (.int b), .val (.int flags), .val (.int ovLen), .val (.int ovPage), .val (.int fill), .val (.int (own_m a)), .val (.int (own_m b)), .val (.int (if (flags &&& (1 : Int32)) = (0 : Int32) then (0 : Int32) else 1)), .val (.ref b1), .val (.ref b14), .unset, .unset, .unset, .unset, .unset, .unset] [(.int ovPage), (.int ovLen), (.ref b14), (.ref b1), (.ref b19), (.ref b19)]) (fun t_ k_ => ?_) ?_
        · refine XS.dup X19.here hx rfl (hb hby at_78) rfl rfl ?_
          show Steps p_.tables e_ below (T19.setTop (mkF m_ 79 #[.val (.int a), .val (.int b), .val (.int flags), .val (.int ovLen), .val (.int ovPage), .val (.int fill), .val (.int (own_m a)), .val (.int (own_m b)), .val (.int (if (flags &&& (1 : Int32)) = (0 : Int32) then (0 : Int32) else 1)), .val (.ref b1), .val (.ref b14), .unset, .unset, .unset, .unset, .unset, .unset] [(.ref b19), (.ref b19)])) t_
          refine XS.aload X19.here hx rfl (hb hby at_79) rfl rfl ?_
          show Steps p_.tables e_ below (T19.setTop (mkF m_ 81 #[.val (.int a), .val (.int b), .val (.int flags), .val (.int ovLen), .val (.int ovPage), .val (.int fill), .val (.int (own_m a)), .val (.int (own_m b)), .val (.int (if (flags &&& (1 : Int32)) = (0 : Int32) then (0 : Int32) else 1)), .val (.ref b1), .val (.ref b14), .unset, .unset, .unset, .unset, .unset, .unset] [(.ref b1), (.ref b19), (.ref b19)])) t_
          refine XS.aload X19.here hx rfl (hb hby at_81) rfl rfl ?_
          show Steps p_.tables e_ below (T19.setTop (mkF m_ 83 #[.val (.int a), .val (.int b), .val (.int flags), .val (.int ovLen), .val (.int ovPage), .val (.int fill), .val (.int (own_m a)), .val (.int (own_m b)), .val (.int (if (flags &&& (1 : Int32)) = (0 : Int32) then (0 : Int32) else 1)), .val (.ref b1), .val (.ref b14), .unset, .unset, .unset, .unset, .unset, .unset] [(.ref b14), (.ref b1), (.ref b19), (.ref b19)])) t_
          refine XS.iloadN X19.here hx rfl (hb hby at_83) rfl ?_
          show Steps p_.tables e_ below (T19.setTop (mkF m_ 84 #[.val (.int a), .val (.int b), .val (.int flags), .val (.int ovLen), .val (.int ovPage), .val (.int fill), .val (.int (own_m a)), .val (.int (own_m b)), .val (.int (if (flags &&& (1 : Int32)) = (0 : Int32) then (0 : Int32) else 1)), .val (.ref b1), .val (.ref b14), .unset, .unset, .unset, .unset, .unset, .unset] [(.int ovLen), (.ref b14), (.ref b1), (.ref b19), (.ref b19)])) t_
          refine XS.iload X19.here hx rfl (hb hby at_84) rfl ?_
          show Steps p_.tables e_ below (T19.setTop (mkF m_ 86 #[.val (.int a), .val (.int b), .val (.int flags), .val (.int ovLen), .val (.int ovPage), .val (.int fill), .val (.int (own_m a)), .val (.int (own_m b)), .val (.int (if (flags &&& (1 : Int32)) = (0 : Int32) then (0 : Int32) else 1)), .val (.ref b1), .val (.ref b14), .unset, .unset, .unset, .unset, .unset, .unset] [(.int ovPage), (.int ovLen), (.ref b14), (.ref b1), (.ref b19), (.ref b19)])) t_
          exact k_
        refine own_callC X19 hx hZ rfl hown (hw _ (List.mem_of_getElem? (i := 4) rfl)) (hw _ (List.mem_of_getElem? (i := 5) rfl)) (hw _ (List.mem_of_getElem? (i := 3) rfl)) (hw _ (List.mem_of_getElem? (i := 6) rfl)) (by decide) b19 [(.ref b1), (.ref b14), (.int ovLen), (.int ovPage)] [(.ref b19)] (rm1 l Z a0 hw b19 b1 b14 ovLen ovPage h19 n0 Z0 E_b19 F_key_b19 F_value_b19 F_overflowLength_b19 F_overflowPage_b19 g_b19) 1 (by decide) (by decide) e19 (by rw [hml]; rfl) (lenOf own_pd1 rfl) rfl (Nat.le_of_eq rfl) (hb hby at_86) (by decide) (by decide) ?_
        intro v20 T20 L20 X20 q20
        obtain ⟨rfl, N20q, K20, Eq20, Fq20_key, Fq20_value, Fq20_overflowLength, Fq20_overflowPage⟩ := q20
        have N20 := Fr.app N0 N20q
        replace A_b1 := A_b1.keep K20 (ninS ne_b1_b19 nin0)
        replace A_b14 := A_b14.keep K20 (ninS ne_b14_b19 nin0)
        -- F_key_b19 is dropped: written by the callee
        -- F_value_b19 is dropped: written by the callee
        -- F_overflowLength_b19 is dropped: written by the callee
        -- F_overflowPage_b19 is dropped: written by the callee
        replace E_b19 := E_b19.keep K20
        replace Z0 : n0 ≤ T20.heap.size := Nat.le_trans Z0 K20.1
        have F_key_b19 := Fq20_key
        have F_value_b19 := Fq20_value
        have F_overflowLength_b19 := Fq20_overflowLength
        have F_overflowPage_b19 := Fq20_overflowPage
        show own_Out p_ e_ below s_ _ _ _ T20 (mkF m_ 89 #[.val (.int a), .val (.int b), .val (.int flags), .val (.int ovLen), .val (.int ovPage), .val (.int fill), .val (.int (own_m a)), .val (.int (own_m b)), .val (.int (if (flags &&& (1 : Int32)) = (0 : Int32) then (0 : Int32) else 1)), .val (.ref b1), .val (.ref b14), .unset, .unset, .unset, .unset, .unset, .unset] [(.ref b19)])
        refine own_st T20 (mkF m_ 134 #[.val (.int a), .val (.int b), .val (.int flags), .val (.int ovLen), .val (.int ovPage), .val (.int fill), .val (.int (own_m a)), .val (.int (own_m b)), .val (.int (if (flags &&& (1 : Int32)) = (0 : Int32) then (0 : Int32) else 1)), .val (.ref b1), .val (.ref b14), .val (.ref b19), .val (.int (2 : Int32)), .val (.int (2 : Int32)), .val (.int (2 : Int32)), .val (.int (own_m b)), .val (.int (((6 : Int32) + (own_m a)) + (own_m b)))] [(.ref b19)]) (fun t_ k_ => ?_) ?_
        · refine XS.astore X20.here hx rfl (hb hby at_89) rfl rfl (l' := #[.val (.int a), .val (.int b), .val (.int flags), .val (.int ovLen), .val (.int ovPage), .val (.int fill), .val (.int (own_m a)), .val (.int (own_m b)), .val (.int (if (flags &&& (1 : Int32)) = (0 : Int32) then (0 : Int32) else 1)), .val (.ref b1), .val (.ref b14), .val (.ref b19), .unset, .unset, .unset, .unset, .unset]) rfl ?_
          show Steps p_.tables e_ below (T20.setTop (mkF m_ 91 #[.val (.int a), .val (.int b), .val (.int flags), .val (.int ovLen), .val (.int ovPage), .val (.int fill), .val (.int (own_m a)), .val (.int (own_m b)), .val (.int (if (flags &&& (1 : Int32)) = (0 : Int32) then (0 : Int32) else 1)), .val (.ref b1), .val (.ref b14), .val (.ref b19), .unset, .unset, .unset, .unset, .unset] [])) t_
          refine XS.iconst X20.here hx rfl (hb hby at_91) ?_
          show Steps p_.tables e_ below (T20.setTop (mkF m_ 92 #[.val (.int a), .val (.int b), .val (.int flags), .val (.int ovLen), .val (.int ovPage), .val (.int fill), .val (.int (own_m a)), .val (.int (own_m b)), .val (.int (if (flags &&& (1 : Int32)) = (0 : Int32) then (0 : Int32) else 1)), .val (.ref b1), .val (.ref b14), .val (.ref b19), .unset, .unset, .unset, .unset, .unset] [(.int (2 : Int32))])) t_
          refine XS.istore X20.here hx rfl (hb hby at_92) rfl (l' := #[.val (.int a), .val (.int b), .val (.int flags), .val (.int ovLen), .val (.int ovPage), .val (.int fill), .val (.int (own_m a)), .val (.int (own_m b)), .val (.int (if (flags &&& (1 : Int32)) = (0 : Int32) then (0 : Int32) else 1)), .val (.ref b1), .val (.ref b14), .val (.ref b19), .val (.int (2 : Int32)), .unset, .unset, .unset, .unset]) rfl ?_
          show Steps p_.tables e_ below (T20.setTop (mkF m_ 94 #[.val (.int a), .val (.int b), .val (.int flags), .val (.int ovLen), .val (.int ovPage), .val (.int fill), .val (.int (own_m a)), .val (.int (own_m b)), .val (.int (if (flags &&& (1 : Int32)) = (0 : Int32) then (0 : Int32) else 1)), .val (.ref b1), .val (.ref b14), .val (.ref b19), .val (.int (2 : Int32)), .unset, .unset, .unset, .unset] [])) t_
          refine XS.iconst X20.here hx rfl (hb hby at_94) ?_
          show Steps p_.tables e_ below (T20.setTop (mkF m_ 95 #[.val (.int a), .val (.int b), .val (.int flags), .val (.int ovLen), .val (.int ovPage), .val (.int fill), .val (.int (own_m a)), .val (.int (own_m b)), .val (.int (if (flags &&& (1 : Int32)) = (0 : Int32) then (0 : Int32) else 1)), .val (.ref b1), .val (.ref b14), .val (.ref b19), .val (.int (2 : Int32)), .unset, .unset, .unset, .unset] [(.int (2 : Int32))])) t_
          refine XS.istore X20.here hx rfl (hb hby at_95) rfl (l' := #[.val (.int a), .val (.int b), .val (.int flags), .val (.int ovLen), .val (.int ovPage), .val (.int fill), .val (.int (own_m a)), .val (.int (own_m b)), .val (.int (if (flags &&& (1 : Int32)) = (0 : Int32) then (0 : Int32) else 1)), .val (.ref b1), .val (.ref b14), .val (.ref b19), .val (.int (2 : Int32)), .val (.int (2 : Int32)), .unset, .unset, .unset]) rfl ?_
          show Steps p_.tables e_ below (T20.setTop (mkF m_ 97 #[.val (.int a), .val (.int b), .val (.int flags), .val (.int ovLen), .val (.int ovPage), .val (.int fill), .val (.int (own_m a)), .val (.int (own_m b)), .val (.int (if (flags &&& (1 : Int32)) = (0 : Int32) then (0 : Int32) else 1)), .val (.ref b1), .val (.ref b14), .val (.ref b19), .val (.int (2 : Int32)), .val (.int (2 : Int32)), .unset, .unset, .unset] [])) t_
          refine XS.iconst X20.here hx rfl (hb hby at_97) ?_
          show Steps p_.tables e_ below (T20.setTop (mkF m_ 98 #[.val (.int a), .val (.int b), .val (.int flags), .val (.int ovLen), .val (.int ovPage), .val (.int fill), .val (.int (own_m a)), .val (.int (own_m b)), .val (.int (if (flags &&& (1 : Int32)) = (0 : Int32) then (0 : Int32) else 1)), .val (.ref b1), .val (.ref b14), .val (.ref b19), .val (.int (2 : Int32)), .val (.int (2 : Int32)), .unset, .unset, .unset] [(.int (2 : Int32))])) t_
          refine XS.istore X20.here hx rfl (hb hby at_98) rfl (l' := #[.val (.int a), .val (.int b), .val (.int flags), .val (.int ovLen), .val (.int ovPage), .val (.int fill), .val (.int (own_m a)), .val (.int (own_m b)), .val (.int (if (flags &&& (1 : Int32)) = (0 : Int32) then (0 : Int32) else 1)), .val (.ref b1), .val (.ref b14), .val (.ref b19), .val (.int (2 : Int32)), .val (.int (2 : Int32)), .val (.int (2 : Int32)), .unset, .unset]) rfl ?_
          show Steps p_.tables e_ below (T20.setTop (mkF m_ 100 #[.val (.int a), .val (.int b), .val (.int flags), .val (.int ovLen), .val (.int ovPage), .val (.int fill), .val (.int (own_m a)), .val (.int (own_m b)), .val (.int (if (flags &&& (1 : Int32)) = (0 : Int32) then (0 : Int32) else 1)), .val (.ref b1), .val (.ref b14), .val (.ref b19), .val (.int (2 : Int32)), .val (.int (2 : Int32)), .val (.int (2 : Int32)), .unset, .unset] [])) t_
          refine XS.iload X20.here hx rfl (hb hby at_100) rfl ?_
          show Steps p_.tables e_ below (T20.setTop (mkF m_ 102 #[.val (.int a), .val (.int b), .val (.int flags), .val (.int ovLen), .val (.int ovPage), .val (.int fill), .val (.int (own_m a)), .val (.int (own_m b)), .val (.int (if (flags &&& (1 : Int32)) = (0 : Int32) then (0 : Int32) else 1)), .val (.ref b1), .val (.ref b14), .val (.ref b19), .val (.int (2 : Int32)), .val (.int (2 : Int32)), .val (.int (2 : Int32)), .unset, .unset] [(.int (if (flags &&& (1 : Int32)) = (0 : Int32) then (0 : Int32) else 1))])) t_
          refine XS.ifYes X20.here hx rfl (pc0 := 102) (pc' := 112) rfl (hb hby at_102) rfl ((if0 _ _).trans (teq (own_nt (hc48 : (flags &&& (1 : Int32)) = (0 : Int32)))).1) (by decide) (by decide) ?_
          show Steps p_.tables e_ below (T20.setTop (mkF m_ 112 #[.val (.int a), .val (.int b), .val (.int flags), .val (.int ovLen), .val (.int ovPage), .val (.int fill), .val (.int (own_m a)), .val (.int (own_m b)), .val (.int (if (flags &&& (1 : Int32)) = (0 : Int32) then (0 : Int32) else 1)), .val (.ref b1), .val (.ref b14), .val (.ref b19), .val (.int (2 : Int32)), .val (.int (2 : Int32)), .val (.int (2 : Int32)), .unset, .unset] [])) t_
          refine XS.iload X20.here hx rfl (hb hby at_112) rfl ?_
          show Steps p_.tables e_ below (T20.setTop (mkF m_ 114 #[.val (.int a), .val (.int b), .val (.int flags), .val (.int ovLen), .val (.int ovPage), .val (.int fill), .val (.int (own_m a)), .val (.int (own_m b)), .val (.int (if (flags &&& (1 : Int32)) = (0 : Int32) then (0 : Int32) else 1)), .val (.ref b1), .val (.ref b14), .val (.ref b19), .val (.int (2 : Int32)), .val (.int (2 : Int32)), .val (.int (2 : Int32)), .unset, .unset] [(.int (own_m b))])) t_
          refine XS.istore X20.here hx rfl (hb hby at_114) rfl (l' := #[.val (.int a), .val (.int b), .val (.int flags), .val (.int ovLen), .val (.int ovPage), .val (.int fill), .val (.int (own_m a)), .val (.int (own_m b)), .val (.int (if (flags &&& (1 : Int32)) = (0 : Int32) then (0 : Int32) else 1)), .val (.ref b1), .val (.ref b14), .val (.ref b19), .val (.int (2 : Int32)), .val (.int (2 : Int32)), .val (.int (2 : Int32)), .val (.int (own_m b)), .unset]) rfl ?_
          show Steps p_.tables e_ below (T20.setTop (mkF m_ 116 #[.val (.int a), .val (.int b), .val (.int flags), .val (.int ovLen), .val (.int ovPage), .val (.int fill), .val (.int (own_m a)), .val (.int (own_m b)), .val (.int (if (flags &&& (1 : Int32)) = (0 : Int32) then (0 : Int32) else 1)), .val (.ref b1), .val (.ref b14), .val (.ref b19), .val (.int (2 : Int32)), .val (.int (2 : Int32)), .val (.int (2 : Int32)), .val (.int (own_m b)), .unset] [])) t_
          refine XS.iload X20.here hx rfl (hb hby at_116) rfl ?_
          show Steps p_.tables e_ below (T20.setTop (mkF m_ 118 #[.val (.int a), .val (.int b), .val (.int flags), .val (.int ovLen), .val (.int ovPage), .val (.int fill), .val (.int (own_m a)), .val (.int (own_m b)), .val (.int (if (flags &&& (1 : Int32)) = (0 : Int32) then (0 : Int32) else 1)), .val (.ref b1), .val (.ref b14), .val (.ref b19), .val (.int (2 : Int32)), .val (.int (2 : Int32)), .val (.int (2 : Int32)), .val (.int (own_m b)), .unset] [(.int (2 : Int32))])) t_
          refine XS.iload X20.here hx rfl (hb hby at_118) rfl ?_
          show Steps p_.tables e_ below (T20.setTop (mkF m_ 120 #[.val (.int a), .val (.int b), .val (.int flags), .val (.int ovLen), .val (.int ovPage), .val (.int fill), .val (.int (own_m a)), .val (.int (own_m b)), .val (.int (if (flags &&& (1 : Int32)) = (0 : Int32) then (0 : Int32) else 1)), .val (.ref b1), .val (.ref b14), .val (.ref b19), .val (.int (2 : Int32)), .val (.int (2 : Int32)), .val (.int (2 : Int32)), .val (.int (own_m b)), .unset] [(.int (2 : Int32)), (.int (2 : Int32))])) t_
          refine XS.iadd X20.here hx rfl (hb hby at_120) rfl ?_
          show Steps p_.tables e_ below (T20.setTop (mkF m_ 121 #[.val (.int a), .val (.int b), .val (.int flags), .val (.int ovLen), .val (.int ovPage), .val (.int fill), .val (.int (own_m a)), .val (.int (own_m b)), .val (.int (if (flags &&& (1 : Int32)) = (0 : Int32) then (0 : Int32) else 1)), .val (.ref b1), .val (.ref b14), .val (.ref b19), .val (.int (2 : Int32)), .val (.int (2 : Int32)), .val (.int (2 : Int32)), .val (.int (own_m b)), .unset] [(.int (4 : Int32))])) t_
          refine XS.iload X20.here hx rfl (hb hby at_121) rfl ?_
          show Steps p_.tables e_ below (T20.setTop (mkF m_ 123 #[.val (.int a), .val (.int b), .val (.int flags), .val (.int ovLen), .val (.int ovPage), .val (.int fill), .val (.int (own_m a)), .val (.int (own_m b)), .val (.int (if (flags &&& (1 : Int32)) = (0 : Int32) then (0 : Int32) else 1)), .val (.ref b1), .val (.ref b14), .val (.ref b19), .val (.int (2 : Int32)), .val (.int (2 : Int32)), .val (.int (2 : Int32)), .val (.int (own_m b)), .unset] [(.int (2 : Int32)), (.int (4 : Int32))])) t_
          refine XS.iadd X20.here hx rfl (hb hby at_123) rfl ?_
          show Steps p_.tables e_ below (T20.setTop (mkF m_ 124 #[.val (.int a), .val (.int b), .val (.int flags), .val (.int ovLen), .val (.int ovPage), .val (.int fill), .val (.int (own_m a)), .val (.int (own_m b)), .val (.int (if (flags &&& (1 : Int32)) = (0 : Int32) then (0 : Int32) else 1)), .val (.ref b1), .val (.ref b14), .val (.ref b19), .val (.int (2 : Int32)), .val (.int (2 : Int32)), .val (.int (2 : Int32)), .val (.int (own_m b)), .unset] [(.int (6 : Int32))])) t_
          refine XS.iload X20.here hx rfl (hb hby at_124) rfl ?_
          show Steps p_.tables e_ below (T20.setTop (mkF m_ 126 #[.val (.int a), .val (.int b), .val (.int flags), .val (.int ovLen), .val (.int ovPage), .val (.int fill), .val (.int (own_m a)), .val (.int (own_m b)), .val (.int (if (flags &&& (1 : Int32)) = (0 : Int32) then (0 : Int32) else 1)), .val (.ref b1), .val (.ref b14), .val (.ref b19), .val (.int (2 : Int32)), .val (.int (2 : Int32)), .val (.int (2 : Int32)), .val (.int (own_m b)), .unset] [(.int (own_m a)), (.int (6 : Int32))])) t_
          refine XS.iadd X20.here hx rfl (hb hby at_126) rfl ?_
          show Steps p_.tables e_ below (T20.setTop (mkF m_ 127 #[.val (.int a), .val (.int b), .val (.int flags), .val (.int ovLen), .val (.int ovPage), .val (.int fill), .val (.int (own_m a)), .val (.int (own_m b)), .val (.int (if (flags &&& (1 : Int32)) = (0 : Int32) then (0 : Int32) else 1)), .val (.ref b1), .val (.ref b14), .val (.ref b19), .val (.int (2 : Int32)), .val (.int (2 : Int32)), .val (.int (2 : Int32)), .val (.int (own_m b)), .unset] [(.int ((6 : Int32) + (own_m a)))])) t_
          refine XS.iload X20.here hx rfl (hb hby at_127) rfl ?_
          show Steps p_.tables e_ below (T20.setTop (mkF m_ 129 #[.val (.int a), .val (.int b), .val (.int flags), .val (.int ovLen), .val (.int ovPage), .val (.int fill), .val (.int (own_m a)), .val (.int (own_m b)), .val (.int (if (flags &&& (1 : Int32)) = (0 : Int32) then (0 : Int32) else 1)), .val (.ref b1), .val (.ref b14), .val (.ref b19), .val (.int (2 : Int32)), .val (.int (2 : Int32)), .val (.int (2 : Int32)), .val (.int (own_m b)), .unset] [(.int (own_m b)), (.int ((6 : Int32) + (own_m a)))])) t_
          refine XS.iadd X20.here hx rfl (hb hby at_129) rfl ?_
          show Steps p_.tables e_ below (T20.setTop (mkF m_ 130 #[.val (.int a), .val (.int b), .val (.int flags), .val (.int ovLen), .val (.int ovPage), .val (.int fill), .val (.int (own_m a)), .val (.int (own_m b)), .val (.int (if (flags &&& (1 : Int32)) = (0 : Int32) then (0 : Int32) else 1)), .val (.ref b1), .val (.ref b14), .val (.ref b19), .val (.int (2 : Int32)), .val (.int (2 : Int32)), .val (.int (2 : Int32)), .val (.int (own_m b)), .unset] [(.int (((6 : Int32) + (own_m a)) + (own_m b)))])) t_
          refine XS.istore X20.here hx rfl (hb hby at_130) rfl (l' := #[.val (.int a), .val (.int b), .val (.int flags), .val (.int ovLen), .val (.int ovPage), .val (.int fill), .val (.int (own_m a)), .val (.int (own_m b)), .val (.int (if (flags &&& (1 : Int32)) = (0 : Int32) then (0 : Int32) else 1)), .val (.ref b1), .val (.ref b14), .val (.ref b19), .val (.int (2 : Int32)), .val (.int (2 : Int32)), .val (.int (2 : Int32)), .val (.int (own_m b)), .val (.int (((6 : Int32) + (own_m a)) + (own_m b)))]) rfl ?_
          show Steps p_.tables e_ below (T20.setTop (mkF m_ 132 #[.val (.int a), .val (.int b), .val (.int flags), .val (.int ovLen), .val (.int ovPage), .val (.int fill), .val (.int (own_m a)), .val (.int (own_m b)), .val (.int (if (flags &&& (1 : Int32)) = (0 : Int32) then (0 : Int32) else 1)), .val (.ref b1), .val (.ref b14), .val (.ref b19), .val (.int (2 : Int32)), .val (.int (2 : Int32)), .val (.int (2 : Int32)), .val (.int (own_m b)), .val (.int (((6 : Int32) + (own_m a)) + (own_m b)))] [])) t_
          refine XS.aload X20.here hx rfl (hb hby at_132) rfl rfl ?_
          show Steps p_.tables e_ below (T20.setTop (mkF m_ 134 #[.val (.int a), .val (.int b), .val (.int flags), .val (.int ovLen), .val (.int ovPage), .val (.int fill), .val (.int (own_m a)), .val (.int (own_m b)), .val (.int (if (flags &&& (1 : Int32)) = (0 : Int32) then (0 : Int32) else 1)), .val (.ref b1), .val (.ref b14), .val (.ref b19), .val (.int (2 : Int32)), .val (.int (2 : Int32)), .val (.int (2 : Int32)), .val (.int (own_m b)), .val (.int (((6 : Int32) + (own_m a)) + (own_m b)))] [(.ref b19)])) t_
          exact k_
        refine own_callV X20 hx hZ (y := (⟨"com/example/varrowkeep/varrowkeep/storage/Node$LeafCell", "size", "()I"⟩ : MethodName)) (z := (⟨"com/example/varrowkeep/varrowkeep/storage/Node$LeafCell", "size", "()I"⟩ : MethodName)) hown (hw _ (List.mem_of_getElem? (i := 23) rfl)) (hw _ (List.mem_of_getElem? (i := 24) rfl)) (notFace_of_selects (args := #[]) (mvT hZ (hw _ (List.mem_of_getElem? (i := 26) rfl)))) (hw _ (List.mem_of_getElem? (i := 26) rfl)) (hw _ (List.mem_of_getElem? (i := 25) rfl)) (hw _ (List.mem_of_getElem? (i := 3) rfl)) (hw _ (List.mem_of_getElem? (i := 27) rfl)) (by decide) b19 [] [] E_b19 (rm4 l Z a0 hw b19 b1 b14 k1 k14 (own_mn a) (own_mn b) _ _ (own_m a) (own_m b) T20.heap n0 Z0 F_key_b19 F_value_b19 A_b1 (own_m1 a) A_b14 (own_m1 b)) 0 (by decide) (by decide) rfl (by rw [hml]; rfl) (lenOf own_pd2 rfl) rfl (Nat.le_of_eq rfl) (hb hby at_134) (by decide) (by decide) ?_
        intro v21 T21 L21 X21 q21
        obtain ⟨rfl, N21q, e21⟩ := q21
        have N21 := Fr.app N20 N21q
        show own_Out p_ e_ below s_ _ _ _ T21 (mkF m_ 137 #[.val (.int a), .val (.int b), .val (.int flags), .val (.int ovLen), .val (.int ovPage), .val (.int fill), .val (.int (own_m a)), .val (.int (own_m b)), .val (.int (if (flags &&& (1 : Int32)) = (0 : Int32) then (0 : Int32) else 1)), .val (.ref b1), .val (.ref b14), .val (.ref b19), .val (.int (2 : Int32)), .val (.int (2 : Int32)), .val (.int (2 : Int32)), .val (.int (own_m b)), .val (.int (((6 : Int32) + (own_m a)) + (own_m b)))] [(.int (((6 : Int32) + (own_m a)) + (own_m b)))])
        refine own_st T21 (mkF m_ 147 #[.val (.int a), .val (.int b), .val (.int flags), .val (.int ovLen), .val (.int ovPage), .val (.int fill), .val (.int (own_m a)), .val (.int (own_m b)), .val (.int (if (flags &&& (1 : Int32)) = (0 : Int32) then (0 : Int32) else 1)), .val (.ref b1), .val (.ref b14), .val (.ref b19), .val (.int (2 : Int32)), .val (.int (2 : Int32)), .val (.int (2 : Int32)), .val (.int (own_m b)), .val (.int (((6 : Int32) + (own_m a)) + (own_m b)))] [(.int (1 : Int32))]) (fun t_ k_ => ?_) ?_
        · refine XS.iload X21.here hx rfl (hb hby at_137) rfl ?_
          show Steps p_.tables e_ below (T21.setTop (mkF m_ 139 #[.val (.int a), .val (.int b), .val (.int flags), .val (.int ovLen), .val (.int ovPage), .val (.int fill), .val (.int (own_m a)), .val (.int (own_m b)), .val (.int (if (flags &&& (1 : Int32)) = (0 : Int32) then (0 : Int32) else 1)), .val (.ref b1), .val (.ref b14), .val (.ref b19), .val (.int (2 : Int32)), .val (.int (2 : Int32)), .val (.int (2 : Int32)), .val (.int (own_m b)), .val (.int (((6 : Int32) + (own_m a)) + (own_m b)))] [(.int (((6 : Int32) + (own_m a)) + (own_m b))), (.int (((6 : Int32) + (own_m a)) + (own_m b)))])) t_
          refine XS.icmpNo X21.here hx rfl (hb hby at_139) rfl (teq (rfl : (((6 : Int32) + (own_m a)) + (own_m b)) = (((6 : Int32) + (own_m a)) + (own_m b)))).2 ?_
          show Steps p_.tables e_ below (T21.setTop (mkF m_ 142 #[.val (.int a), .val (.int b), .val (.int flags), .val (.int ovLen), .val (.int ovPage), .val (.int fill), .val (.int (own_m a)), .val (.int (own_m b)), .val (.int (if (flags &&& (1 : Int32)) = (0 : Int32) then (0 : Int32) else 1)), .val (.ref b1), .val (.ref b14), .val (.ref b19), .val (.int (2 : Int32)), .val (.int (2 : Int32)), .val (.int (2 : Int32)), .val (.int (own_m b)), .val (.int (((6 : Int32) + (own_m a)) + (own_m b)))] [])) t_
          refine XS.iconst X21.here hx rfl (hb hby at_142) ?_
          show Steps p_.tables e_ below (T21.setTop (mkF m_ 143 #[.val (.int a), .val (.int b), .val (.int flags), .val (.int ovLen), .val (.int ovPage), .val (.int fill), .val (.int (own_m a)), .val (.int (own_m b)), .val (.int (if (flags &&& (1 : Int32)) = (0 : Int32) then (0 : Int32) else 1)), .val (.ref b1), .val (.ref b14), .val (.ref b19), .val (.int (2 : Int32)), .val (.int (2 : Int32)), .val (.int (2 : Int32)), .val (.int (own_m b)), .val (.int (((6 : Int32) + (own_m a)) + (own_m b)))] [(.int (1 : Int32))])) t_
          refine XS.goto X21.here hx rfl (pc0 := 143) (pc' := 147) rfl (hb hby at_143) (by decide) (by decide) ?_
          show Steps p_.tables e_ below (T21.setTop (mkF m_ 147 #[.val (.int a), .val (.int b), .val (.int flags), .val (.int ovLen), .val (.int ovPage), .val (.int fill), .val (.int (own_m a)), .val (.int (own_m b)), .val (.int (if (flags &&& (1 : Int32)) = (0 : Int32) then (0 : Int32) else 1)), .val (.ref b1), .val (.ref b14), .val (.ref b19), .val (.int (2 : Int32)), .val (.int (2 : Int32)), .val (.int (2 : Int32)), .val (.int (own_m b)), .val (.int (((6 : Int32) + (own_m a)) + (own_m b)))] [(.int (1 : Int32))])) t_
          exact k_
        refine own_retN X21 hx hlk (t := .boolean) hret (by simp) (hb hby at_147) (by decide) (by decide) ?_
        exact ⟨rfl, N21⟩
    · refine own_st T1 (mkF m_ 75 #[.val (.int a), .val (.int b), .val (.int flags), .val (.int ovLen), .val (.int ovPage), .val (.int fill), .val (.int (own_m a)), .val (.int (own_m b)), .val (.int (if (flags &&& (1 : Int32)) = (0 : Int32) then (0 : Int32) else 1)), .val (.ref b1), .val .null, .unset, .unset, .unset, .unset, .unset, .unset] []) (fun t_ k_ => XS.ifYes X1.here hx rfl (pc0 := 48) (pc' := 75) rfl (hb hby at_48) rfl ((if0 _ _).trans (feq (own_nf hc48)).2) (by decide) (by decide) k_) ?_
      obtain ⟨T22, h22, X22, e22, E22, A22, D22, -, st22⟩ := newO X1 hx hZ hown (hw _ (List.mem_of_getElem? (i := 1) rfl)) (hw _ (List.mem_of_getElem? (i := 2) rfl)) (hw _ (List.mem_of_getElem? (i := 3) rfl)) e1 (g := (mkF m_ 75 #[.val (.int a), .val (.int b), .val (.int flags), .val (.int ovLen), .val (.int ovPage), .val (.int fill), .val (.int (own_m a)), .val (.int (own_m b)), .val (.int (if (flags &&& (1 : Int32)) = (0 : Int32) then (0 : Int32) else 1)), .val (.ref b1), .val .null, .unset, .unset, .unset, .unset, .unset, .unset] [])) rfl (hb hby at_75) (by decide) (by decide)
      obtain ⟨b22, g22⟩ : ∃ z, z = h1.size := ⟨_, rfl⟩
      rw [← g22] at A22 D22 st22
      have g_b22 : n0 ≤ b22 := g22 ▸ Z0
      have ne_b1_b22 : b1 ≠ b22 := Nat.ne_of_lt (Nat.lt_of_lt_of_le A_b1.lt (Nat.le_of_eq g22.symm))
      replace A_b1 := A_b1.ext E22
      replace Z0 : n0 ≤ h22.size := Nat.le_trans Z0 E22.1
      have F_key_b22 : Fld Z h22 b22 "com/example/varrowkeep/varrowkeep/storage/Node$LeafCell" "key" "[B" .null := D22 (Or.inr (hw _ (List.mem_of_getElem? (i := 16) rfl))) (ty := (.array .byte)) (by decide)
      have F_value_b22 : Fld Z h22 b22 "com/example/varrowkeep/varrowkeep/storage/Node$LeafCell" "value" "[B" .null := D22 (Or.inr (hw _ (List.mem_of_getElem? (i := 18) rfl))) (ty := (.array .byte)) (by decide)
      have F_overflowLength_b22 : Fld Z h22 b22 "com/example/varrowkeep/varrowkeep/storage/Node$LeafCell" "overflowLength" "I" (.int (0 : Int32)) := D22 (Or.inr (hw _ (List.mem_of_getElem? (i := 20) rfl))) (ty := .int) (by decide)
      have F_overflowPage_b22 : Fld Z h22 b22 "com/example/varrowkeep/varrowkeep/storage/Node$LeafCell" "overflowPage" "I" (.int (0 : Int32)) := D22 (Or.inr (hw _ (List.mem_of_getElem? (i := 22) rfl))) (ty := .int) (by decide)
      have E_b22 := A22
      refine own_st T22 (mkF m_ 78 #[.val (.int a), .val (.int b), .val (.int flags), .val (.int ovLen), .val (.int ovPage), .val (.int fill), .val (.int (own_m a)), .val (.int (own_m b)), .val (.int (if (flags &&& (1 : Int32)) = (0 : Int32) then (0 : Int32) else 1)), .val (.ref b1), .val .null, .unset, .unset, .unset, .unset, .unset, .unset] [(.ref b22)]) st22 ?_
      refine own_st T22 (mkF m_ 86 #[.val (.int a), .val (.int b), .val (.int flags), .val (.int ovLen), .val (.int ovPage), .val (.int fill), .val (.int (own_m a)), .val (.int (own_m b)), .val (.int (if (flags &&& (1 : Int32)) = (0 : Int32) then (0 : Int32) else 1)), .val (.ref b1), .val .null, .unset, .unset, .unset, .unset, .unset, .unset] [(.int ovPage), (.int ovLen), .null, (.ref b1), (.ref b22), (.ref b22)]) (fun t_ k_ => ?_) ?_
      · refine XS.dup X22.here hx rfl (hb hby at_78) rfl rfl ?_
        show Steps p_.tables e_ below (T22.setTop (mkF m_ 79 #[.val (.int a), .val (.int b), .val (.int flags), .val (.int ovLen), .val (.int ovPage), .val (.int fill), .val (.int (own_m a)), .val (.int (own_m b)), .val (.int (if (flags &&& (1 : Int32)) = (0 : Int32) then (0 : Int32) else 1)), .val (.ref b1), .val .null, .unset, .unset, .unset, .unset, .unset, .unset] [(.ref b22), (.ref b22)])) t_
        refine XS.aload X22.here hx rfl (hb hby at_79) rfl rfl ?_
        show Steps p_.tables e_ below (T22.setTop (mkF m_ 81 #[.val (.int a), .val (.int b), .val (.int flags), .val (.int ovLen), .val (.int ovPage), .val (.int fill), .val (.int (own_m a)), .val (.int (own_m b)), .val (.int (if (flags &&& (1 : Int32)) = (0 : Int32) then (0 : Int32) else 1)), .val (.ref b1), .val .null, .unset, .unset, .unset, .unset, .unset, .unset] [(.ref b1), (.ref b22), (.ref b22)])) t_
        refine XS.aload X22.here hx rfl (hb hby at_81) rfl rfl ?_
        show Steps p_.tables e_ below (T22.setTop (mkF m_ 83 #[.val (.int a), .val (.int b), .val (.int flags), .val (.int ovLen), .val (.int ovPage), .val (.int fill), .val (.int (own_m a)), .val (.int (own_m b)), .val (.int (if (flags &&& (1 : Int32)) = (0 : Int32) then (0 : Int32) else 1)), .val (.ref b1), .val .null, .unset, .unset, .unset, .unset, .unset, .unset] [.null, (.ref b1), (.ref b22), (.ref b22)])) t_
        refine XS.iloadN X22.here hx rfl (hb hby at_83) rfl ?_
        show Steps p_.tables e_ below (T22.setTop (mkF m_ 84 #[.val (.int a), .val (.int b), .val (.int flags), .val (.int ovLen), .val (.int ovPage), .val (.int fill), .val (.int (own_m a)), .val (.int (own_m b)), .val (.int (if (flags &&& (1 : Int32)) = (0 : Int32) then (0 : Int32) else 1)), .val (.ref b1), .val .null, .unset, .unset, .unset, .unset, .unset, .unset] [(.int ovLen), .null, (.ref b1), (.ref b22), (.ref b22)])) t_
        refine XS.iload X22.here hx rfl (hb hby at_84) rfl ?_
        show Steps p_.tables e_ below (T22.setTop (mkF m_ 86 #[.val (.int a), .val (.int b), .val (.int flags), .val (.int ovLen), .val (.int ovPage), .val (.int fill), .val (.int (own_m a)), .val (.int (own_m b)), .val (.int (if (flags &&& (1 : Int32)) = (0 : Int32) then (0 : Int32) else 1)), .val (.ref b1), .val .null, .unset, .unset, .unset, .unset, .unset, .unset] [(.int ovPage), (.int ovLen), .null, (.ref b1), (.ref b22), (.ref b22)])) t_
        exact k_
      refine own_callC X22 hx hZ rfl hown (hw _ (List.mem_of_getElem? (i := 4) rfl)) (hw _ (List.mem_of_getElem? (i := 5) rfl)) (hw _ (List.mem_of_getElem? (i := 3) rfl)) (hw _ (List.mem_of_getElem? (i := 6) rfl)) (by decide) b22 [(.ref b1), .null, (.int ovLen), (.int ovPage)] [(.ref b22)] (rm1n l Z a0 hw b22 b1 ovLen ovPage h22 n0 Z0 E_b22 F_key_b22 F_value_b22 F_overflowLength_b22 F_overflowPage_b22 g_b22) 1 (by decide) (by decide) e22 (by rw [hml]; rfl) (lenOf own_pd1 rfl) rfl (Nat.le_of_eq rfl) (hb hby at_86) (by decide) (by decide) ?_
      intro v23 T23 L23 X23 q23
      obtain ⟨rfl, N23q, K23, Eq23, Fq23_key, Fq23_value, Fq23_overflowLength, Fq23_overflowPage⟩ := q23
      have N23 := Fr.app N0 N23q
      replace A_b1 := A_b1.keep K23 (ninS ne_b1_b22 nin0)
      -- F_key_b22 is dropped: written by the callee
      -- F_value_b22 is dropped: written by the callee
      -- F_overflowLength_b22 is dropped: written by the callee
      -- F_overflowPage_b22 is dropped: written by the callee
      replace E_b22 := E_b22.keep K23
      replace Z0 : n0 ≤ T23.heap.size := Nat.le_trans Z0 K23.1
      have F_key_b22 := Fq23_key
      have F_value_b22 := Fq23_value
      have F_overflowLength_b22 := Fq23_overflowLength
      have F_overflowPage_b22 := Fq23_overflowPage
      show own_Out p_ e_ below s_ _ _ _ T23 (mkF m_ 89 #[.val (.int a), .val (.int b), .val (.int flags), .val (.int ovLen), .val (.int ovPage), .val (.int fill), .val (.int (own_m a)), .val (.int (own_m b)), .val (.int (if (flags &&& (1 : Int32)) = (0 : Int32) then (0 : Int32) else 1)), .val (.ref b1), .val .null, .unset, .unset, .unset, .unset, .unset, .unset] [(.ref b22)])
      refine own_st T23 (mkF m_ 134 #[.val (.int a), .val (.int b), .val (.int flags), .val (.int ovLen), .val (.int ovPage), .val (.int fill), .val (.int (own_m a)), .val (.int (own_m b)), .val (.int (if (flags &&& (1 : Int32)) = (0 : Int32) then (0 : Int32) else 1)), .val (.ref b1), .val .null, .val (.ref b22), .val (.int (2 : Int32)), .val (.int (2 : Int32)), .val (.int (2 : Int32)), .val (.int (8 : Int32)), .val (.int (((6 : Int32) + (own_m a)) + (8 : Int32)))] [(.ref b22)]) (fun t_ k_ => ?_) ?_
      · refine XS.astore X23.here hx rfl (hb hby at_89) rfl rfl (l' := #[.val (.int a), .val (.int b), .val (.int flags), .val (.int ovLen), .val (.int ovPage), .val (.int fill), .val (.int (own_m a)), .val (.int (own_m b)), .val (.int (if (flags &&& (1 : Int32)) = (0 : Int32) then (0 : Int32) else 1)), .val (.ref b1), .val .null, .val (.ref b22), .unset, .unset, .unset, .unset, .unset]) rfl ?_
        show Steps p_.tables e_ below (T23.setTop (mkF m_ 91 #[.val (.int a), .val (.int b), .val (.int flags), .val (.int ovLen), .val (.int ovPage), .val (.int fill), .val (.int (own_m a)), .val (.int (own_m b)), .val (.int (if (flags &&& (1 : Int32)) = (0 : Int32) then (0 : Int32) else 1)), .val (.ref b1), .val .null, .val (.ref b22), .unset, .unset, .unset, .unset, .unset] [])) t_
        refine XS.iconst X23.here hx rfl (hb hby at_91) ?_
        show Steps p_.tables e_ below (T23.setTop (mkF m_ 92 #[.val (.int a), .val (.int b), .val (.int flags), .val (.int ovLen), .val (.int ovPage), .val (.int fill), .val (.int (own_m a)), .val (.int (own_m b)), .val (.int (if (flags &&& (1 : Int32)) = (0 : Int32) then (0 : Int32) else 1)), .val (.ref b1), .val .null, .val (.ref b22), .unset, .unset, .unset, .unset, .unset] [(.int (2 : Int32))])) t_
        refine XS.istore X23.here hx rfl (hb hby at_92) rfl (l' := #[.val (.int a), .val (.int b), .val (.int flags), .val (.int ovLen), .val (.int ovPage), .val (.int fill), .val (.int (own_m a)), .val (.int (own_m b)), .val (.int (if (flags &&& (1 : Int32)) = (0 : Int32) then (0 : Int32) else 1)), .val (.ref b1), .val .null, .val (.ref b22), .val (.int (2 : Int32)), .unset, .unset, .unset, .unset]) rfl ?_
        show Steps p_.tables e_ below (T23.setTop (mkF m_ 94 #[.val (.int a), .val (.int b), .val (.int flags), .val (.int ovLen), .val (.int ovPage), .val (.int fill), .val (.int (own_m a)), .val (.int (own_m b)), .val (.int (if (flags &&& (1 : Int32)) = (0 : Int32) then (0 : Int32) else 1)), .val (.ref b1), .val .null, .val (.ref b22), .val (.int (2 : Int32)), .unset, .unset, .unset, .unset] [])) t_
        refine XS.iconst X23.here hx rfl (hb hby at_94) ?_
        show Steps p_.tables e_ below (T23.setTop (mkF m_ 95 #[.val (.int a), .val (.int b), .val (.int flags), .val (.int ovLen), .val (.int ovPage), .val (.int fill), .val (.int (own_m a)), .val (.int (own_m b)), .val (.int (if (flags &&& (1 : Int32)) = (0 : Int32) then (0 : Int32) else 1)), .val (.ref b1), .val .null, .val (.ref b22), .val (.int (2 : Int32)), .unset, .unset, .unset, .unset] [(.int (2 : Int32))])) t_
        refine XS.istore X23.here hx rfl (hb hby at_95) rfl (l' := #[.val (.int a), .val (.int b), .val (.int flags), .val (.int ovLen), .val (.int ovPage), .val (.int fill), .val (.int (own_m a)), .val (.int (own_m b)), .val (.int (if (flags &&& (1 : Int32)) = (0 : Int32) then (0 : Int32) else 1)), .val (.ref b1), .val .null, .val (.ref b22), .val (.int (2 : Int32)), .val (.int (2 : Int32)), .unset, .unset, .unset]) rfl ?_
        show Steps p_.tables e_ below (T23.setTop (mkF m_ 97 #[.val (.int a), .val (.int b), .val (.int flags), .val (.int ovLen), .val (.int ovPage), .val (.int fill), .val (.int (own_m a)), .val (.int (own_m b)), .val (.int (if (flags &&& (1 : Int32)) = (0 : Int32) then (0 : Int32) else 1)), .val (.ref b1), .val .null, .val (.ref b22), .val (.int (2 : Int32)), .val (.int (2 : Int32)), .unset, .unset, .unset] [])) t_
        refine XS.iconst X23.here hx rfl (hb hby at_97) ?_
        show Steps p_.tables e_ below (T23.setTop (mkF m_ 98 #[.val (.int a), .val (.int b), .val (.int flags), .val (.int ovLen), .val (.int ovPage), .val (.int fill), .val (.int (own_m a)), .val (.int (own_m b)), .val (.int (if (flags &&& (1 : Int32)) = (0 : Int32) then (0 : Int32) else 1)), .val (.ref b1), .val .null, .val (.ref b22), .val (.int (2 : Int32)), .val (.int (2 : Int32)), .unset, .unset, .unset] [(.int (2 : Int32))])) t_
        refine XS.istore X23.here hx rfl (hb hby at_98) rfl (l' := #[.val (.int a), .val (.int b), .val (.int flags), .val (.int ovLen), .val (.int ovPage), .val (.int fill), .val (.int (own_m a)), .val (.int (own_m b)), .val (.int (if (flags &&& (1 : Int32)) = (0 : Int32) then (0 : Int32) else 1)), .val (.ref b1), .val .null, .val (.ref b22), .val (.int (2 : Int32)), .val (.int (2 : Int32)), .val (.int (2 : Int32)), .unset, .unset]) rfl ?_
        show Steps p_.tables e_ below (T23.setTop (mkF m_ 100 #[.val (.int a), .val (.int b), .val (.int flags), .val (.int ovLen), .val (.int ovPage), .val (.int fill), .val (.int (own_m a)), .val (.int (own_m b)), .val (.int (if (flags &&& (1 : Int32)) = (0 : Int32) then (0 : Int32) else 1)), .val (.ref b1), .val .null, .val (.ref b22), .val (.int (2 : Int32)), .val (.int (2 : Int32)), .val (.int (2 : Int32)), .unset, .unset] [])) t_
        refine XS.iload X23.here hx rfl (hb hby at_100) rfl ?_
        show Steps p_.tables e_ below (T23.setTop (mkF m_ 102 #[.val (.int a), .val (.int b), .val (.int flags), .val (.int ovLen), .val (.int ovPage), .val (.int fill), .val (.int (own_m a)), .val (.int (own_m b)), .val (.int (if (flags &&& (1 : Int32)) = (0 : Int32) then (0 : Int32) else 1)), .val (.ref b1), .val .null, .val (.ref b22), .val (.int (2 : Int32)), .val (.int (2 : Int32)), .val (.int (2 : Int32)), .unset, .unset] [(.int (if (flags &&& (1 : Int32)) = (0 : Int32) then (0 : Int32) else 1))])) t_
        refine XS.ifNo X23.here hx rfl (hb hby at_102) rfl ((if0 _ _).trans (feq (own_nf (hc48 : ¬ ((flags &&& (1 : Int32)) = (0 : Int32))))).1) ?_
        show Steps p_.tables e_ below (T23.setTop (mkF m_ 105 #[.val (.int a), .val (.int b), .val (.int flags), .val (.int ovLen), .val (.int ovPage), .val (.int fill), .val (.int (own_m a)), .val (.int (own_m b)), .val (.int (if (flags &&& (1 : Int32)) = (0 : Int32) then (0 : Int32) else 1)), .val (.ref b1), .val .null, .val (.ref b22), .val (.int (2 : Int32)), .val (.int (2 : Int32)), .val (.int (2 : Int32)), .unset, .unset] [])) t_
        refine XS.bipush X23.here hx rfl (hb hby at_105) ?_
        show Steps p_.tables e_ below (T23.setTop (mkF m_ 107 #[.val (.int a), .val (.int b), .val (.int flags), .val (.int ovLen), .val (.int ovPage), .val (.int fill), .val (.int (own_m a)), .val (.int (own_m b)), .val (.int (if (flags &&& (1 : Int32)) = (0 : Int32) then (0 : Int32) else 1)), .val (.ref b1), .val .null, .val (.ref b22), .val (.int (2 : Int32)), .val (.int (2 : Int32)), .val (.int (2 : Int32)), .unset, .unset] [(.int (8 : Int32))])) t_
        refine XS.istore X23.here hx rfl (hb hby at_107) rfl (l' := #[.val (.int a), .val (.int b), .val (.int flags), .val (.int ovLen), .val (.int ovPage), .val (.int fill), .val (.int (own_m a)), .val (.int (own_m b)), .val (.int (if (flags &&& (1 : Int32)) = (0 : Int32) then (0 : Int32) else 1)), .val (.ref b1), .val .null, .val (.ref b22), .val (.int (2 : Int32)), .val (.int (2 : Int32)), .val (.int (2 : Int32)), .val (.int (8 : Int32)), .unset]) rfl ?_
        show Steps p_.tables e_ below (T23.setTop (mkF m_ 109 #[.val (.int a), .val (.int b), .val (.int flags), .val (.int ovLen), .val (.int ovPage), .val (.int fill), .val (.int (own_m a)), .val (.int (own_m b)), .val (.int (if (flags &&& (1 : Int32)) = (0 : Int32) then (0 : Int32) else 1)), .val (.ref b1), .val .null, .val (.ref b22), .val (.int (2 : Int32)), .val (.int (2 : Int32)), .val (.int (2 : Int32)), .val (.int (8 : Int32)), .unset] [])) t_
        refine XS.goto X23.here hx rfl (pc0 := 109) (pc' := 116) rfl (hb hby at_109) (by decide) (by decide) ?_
        show Steps p_.tables e_ below (T23.setTop (mkF m_ 116 #[.val (.int a), .val (.int b), .val (.int flags), .val (.int ovLen), .val (.int ovPage), .val (.int fill), .val (.int (own_m a)), .val (.int (own_m b)), .val (.int (if (flags &&& (1 : Int32)) = (0 : Int32) then (0 : Int32) else 1)), .val (.ref b1), .val .null, .val (.ref b22), .val (.int (2 : Int32)), .val (.int (2 : Int32)), .val (.int (2 : Int32)), .val (.int (8 : Int32)), .unset] [])) t_
        refine XS.iload X23.here hx rfl (hb hby at_116) rfl ?_
        show Steps p_.tables e_ below (T23.setTop (mkF m_ 118 #[.val (.int a), .val (.int b), .val (.int flags), .val (.int ovLen), .val (.int ovPage), .val (.int fill), .val (.int (own_m a)), .val (.int (own_m b)), .val (.int (if (flags &&& (1 : Int32)) = (0 : Int32) then (0 : Int32) else 1)), .val (.ref b1), .val .null, .val (.ref b22), .val (.int (2 : Int32)), .val (.int (2 : Int32)), .val (.int (2 : Int32)), .val (.int (8 : Int32)), .unset] [(.int (2 : Int32))])) t_
        refine XS.iload X23.here hx rfl (hb hby at_118) rfl ?_
        show Steps p_.tables e_ below (T23.setTop (mkF m_ 120 #[.val (.int a), .val (.int b), .val (.int flags), .val (.int ovLen), .val (.int ovPage), .val (.int fill), .val (.int (own_m a)), .val (.int (own_m b)), .val (.int (if (flags &&& (1 : Int32)) = (0 : Int32) then (0 : Int32) else 1)), .val (.ref b1), .val .null, .val (.ref b22), .val (.int (2 : Int32)), .val (.int (2 : Int32)), .val (.int (2 : Int32)), .val (.int (8 : Int32)), .unset] [(.int (2 : Int32)), (.int (2 : Int32))])) t_
        refine XS.iadd X23.here hx rfl (hb hby at_120) rfl ?_
        show Steps p_.tables e_ below (T23.setTop (mkF m_ 121 #[.val (.int a), .val (.int b), .val (.int flags), .val (.int ovLen), .val (.int ovPage), .val (.int fill), .val (.int (own_m a)), .val (.int (own_m b)), .val (.int (if (flags &&& (1 : Int32)) = (0 : Int32) then (0 : Int32) else 1)), .val (.ref b1), .val .null, .val (.ref b22), .val (.int (2 : Int32)), .val (.int (2 : Int32)), .val (.int (2 : Int32)), .val (.int (8 : Int32)), .unset] [(.int (4 : Int32))])) t_
        refine XS.iload X23.here hx rfl (hb hby at_121) rfl ?_
        show Steps p_.tables e_ below (T23.setTop (mkF m_ 123 #[.val (.int a), .val (.int b), .val (.int flags), .val (.int ovLen), .val (.int ovPage), .val (.int fill), .val (.int (own_m a)), .val (.int (own_m b)), .val (.int (if (flags &&& (1 : Int32)) = (0 : Int32) then (0 : Int32) else 1)), .val (.ref b1), .val .null, .val (.ref b22), .val (.int (2 : Int32)), .val (.int (2 : Int32)), .val (.int (2 : Int32)), .val (.int (8 : Int32)), .unset] [(.int (2 : Int32)), (.int (4 : Int32))])) t_
        refine XS.iadd X23.here hx rfl (hb hby at_123) rfl ?_
        show Steps p_.tables e_ below (T23.setTop (mkF m_ 124 #[.val (.int a), .val (.int b), .val (.int flags), .val (.int ovLen), .val (.int ovPage), .val (.int fill), .val (.int (own_m a)), .val (.int (own_m b)), .val (.int (if (flags &&& (1 : Int32)) = (0 : Int32) then (0 : Int32) else 1)), .val (.ref b1), .val .null, .val (.ref b22), .val (.int (2 : Int32)), .val (.int (2 : Int32)), .val (.int (2 : Int32)), .val (.int (8 : Int32)), .unset] [(.int (6 : Int32))])) t_
        refine XS.iload X23.here hx rfl (hb hby at_124) rfl ?_
        show Steps p_.tables e_ below (T23.setTop (mkF m_ 126 #[.val (.int a), .val (.int b), .val (.int flags), .val (.int ovLen), .val (.int ovPage), .val (.int fill), .val (.int (own_m a)), .val (.int (own_m b)), .val (.int (if (flags &&& (1 : Int32)) = (0 : Int32) then (0 : Int32) else 1)), .val (.ref b1), .val .null, .val (.ref b22), .val (.int (2 : Int32)), .val (.int (2 : Int32)), .val (.int (2 : Int32)), .val (.int (8 : Int32)), .unset] [(.int (own_m a)), (.int (6 : Int32))])) t_
        refine XS.iadd X23.here hx rfl (hb hby at_126) rfl ?_
        show Steps p_.tables e_ below (T23.setTop (mkF m_ 127 #[.val (.int a), .val (.int b), .val (.int flags), .val (.int ovLen), .val (.int ovPage), .val (.int fill), .val (.int (own_m a)), .val (.int (own_m b)), .val (.int (if (flags &&& (1 : Int32)) = (0 : Int32) then (0 : Int32) else 1)), .val (.ref b1), .val .null, .val (.ref b22), .val (.int (2 : Int32)), .val (.int (2 : Int32)), .val (.int (2 : Int32)), .val (.int (8 : Int32)), .unset] [(.int ((6 : Int32) + (own_m a)))])) t_
        refine XS.iload X23.here hx rfl (hb hby at_127) rfl ?_
        show Steps p_.tables e_ below (T23.setTop (mkF m_ 129 #[.val (.int a), .val (.int b), .val (.int flags), .val (.int ovLen), .val (.int ovPage), .val (.int fill), .val (.int (own_m a)), .val (.int (own_m b)), .val (.int (if (flags &&& (1 : Int32)) = (0 : Int32) then (0 : Int32) else 1)), .val (.ref b1), .val .null, .val (.ref b22), .val (.int (2 : Int32)), .val (.int (2 : Int32)), .val (.int (2 : Int32)), .val (.int (8 : Int32)), .unset] [(.int (8 : Int32)), (.int ((6 : Int32) + (own_m a)))])) t_
        refine XS.iadd X23.here hx rfl (hb hby at_129) rfl ?_
        show Steps p_.tables e_ below (T23.setTop (mkF m_ 130 #[.val (.int a), .val (.int b), .val (.int flags), .val (.int ovLen), .val (.int ovPage), .val (.int fill), .val (.int (own_m a)), .val (.int (own_m b)), .val (.int (if (flags &&& (1 : Int32)) = (0 : Int32) then (0 : Int32) else 1)), .val (.ref b1), .val .null, .val (.ref b22), .val (.int (2 : Int32)), .val (.int (2 : Int32)), .val (.int (2 : Int32)), .val (.int (8 : Int32)), .unset] [(.int (((6 : Int32) + (own_m a)) + (8 : Int32)))])) t_
        refine XS.istore X23.here hx rfl (hb hby at_130) rfl (l' := #[.val (.int a), .val (.int b), .val (.int flags), .val (.int ovLen), .val (.int ovPage), .val (.int fill), .val (.int (own_m a)), .val (.int (own_m b)), .val (.int (if (flags &&& (1 : Int32)) = (0 : Int32) then (0 : Int32) else 1)), .val (.ref b1), .val .null, .val (.ref b22), .val (.int (2 : Int32)), .val (.int (2 : Int32)), .val (.int (2 : Int32)), .val (.int (8 : Int32)), .val (.int (((6 : Int32) + (own_m a)) + (8 : Int32)))]) rfl ?_
        show Steps p_.tables e_ below (T23.setTop (mkF m_ 132 #[.val (.int a), .val (.int b), .val (.int flags), .val (.int ovLen), .val (.int ovPage), .val (.int fill), .val (.int (own_m a)), .val (.int (own_m b)), .val (.int (if (flags &&& (1 : Int32)) = (0 : Int32) then (0 : Int32) else 1)), .val (.ref b1), .val .null, .val (.ref b22), .val (.int (2 : Int32)), .val (.int (2 : Int32)), .val (.int (2 : Int32)), .val (.int (8 : Int32)), .val (.int (((6 : Int32) + (own_m a)) + (8 : Int32)))] [])) t_
        refine XS.aload X23.here hx rfl (hb hby at_132) rfl rfl ?_
        show Steps p_.tables e_ below (T23.setTop (mkF m_ 134 #[.val (.int a), .val (.int b), .val (.int flags), .val (.int ovLen), .val (.int ovPage), .val (.int fill), .val (.int (own_m a)), .val (.int (own_m b)), .val (.int (if (flags &&& (1 : Int32)) = (0 : Int32) then (0 : Int32) else 1)), .val (.ref b1), .val .null, .val (.ref b22), .val (.int (2 : Int32)), .val (.int (2 : Int32)), .val (.int (2 : Int32)), .val (.int (8 : Int32)), .val (.int (((6 : Int32) + (own_m a)) + (8 : Int32)))] [(.ref b22)])) t_
        exact k_
      refine own_callV X23 hx hZ (y := (⟨"com/example/varrowkeep/varrowkeep/storage/Node$LeafCell", "size", "()I"⟩ : MethodName)) (z := (⟨"com/example/varrowkeep/varrowkeep/storage/Node$LeafCell", "size", "()I"⟩ : MethodName)) hown (hw _ (List.mem_of_getElem? (i := 23) rfl)) (hw _ (List.mem_of_getElem? (i := 24) rfl)) (notFace_of_selects (args := #[]) (mvT hZ (hw _ (List.mem_of_getElem? (i := 26) rfl)))) (hw _ (List.mem_of_getElem? (i := 26) rfl)) (hw _ (List.mem_of_getElem? (i := 25) rfl)) (hw _ (List.mem_of_getElem? (i := 3) rfl)) (hw _ (List.mem_of_getElem? (i := 27) rfl)) (by decide) b22 [] [] E_b22 (rm4n l Z a0 hw b22 b1 k1 k1 (own_mn a) (own_mn a) _ (fun _ => .null) (own_m a) (own_m a) T23.heap n0 Z0 F_key_b22 F_value_b22 A_b1 (own_m1 a) ) 0 (by decide) (by decide) rfl (by rw [hml]; rfl) (lenOf own_pd2 rfl) rfl (Nat.le_of_eq rfl) (hb hby at_134) (by decide) (by decide) ?_
      intro v24 T24 L24 X24 q24
      obtain ⟨rfl, N24q, e24⟩ := q24
      have N24 := Fr.app N23 N24q
      show own_Out p_ e_ below s_ _ _ _ T24 (mkF m_ 137 #[.val (.int a), .val (.int b), .val (.int flags), .val (.int ovLen), .val (.int ovPage), .val (.int fill), .val (.int (own_m a)), .val (.int (own_m b)), .val (.int (if (flags &&& (1 : Int32)) = (0 : Int32) then (0 : Int32) else 1)), .val (.ref b1), .val .null, .val (.ref b22), .val (.int (2 : Int32)), .val (.int (2 : Int32)), .val (.int (2 : Int32)), .val (.int (8 : Int32)), .val (.int (((6 : Int32) + (own_m a)) + (8 : Int32)))] [(.int (((6 : Int32) + (own_m a)) + (8 : Int32)))])
      refine own_st T24 (mkF m_ 147 #[.val (.int a), .val (.int b), .val (.int flags), .val (.int ovLen), .val (.int ovPage), .val (.int fill), .val (.int (own_m a)), .val (.int (own_m b)), .val (.int (if (flags &&& (1 : Int32)) = (0 : Int32) then (0 : Int32) else 1)), .val (.ref b1), .val .null, .val (.ref b22), .val (.int (2 : Int32)), .val (.int (2 : Int32)), .val (.int (2 : Int32)), .val (.int (8 : Int32)), .val (.int (((6 : Int32) + (own_m a)) + (8 : Int32)))] [(.int (1 : Int32))]) (fun t_ k_ => ?_) ?_
      · refine XS.iload X24.here hx rfl (hb hby at_137) rfl ?_
        show Steps p_.tables e_ below (T24.setTop (mkF m_ 139 #[.val (.int a), .val (.int b), .val (.int flags), .val (.int ovLen), .val (.int ovPage), .val (.int fill), .val (.int (own_m a)), .val (.int (own_m b)), .val (.int (if (flags &&& (1 : Int32)) = (0 : Int32) then (0 : Int32) else 1)), .val (.ref b1), .val .null, .val (.ref b22), .val (.int (2 : Int32)), .val (.int (2 : Int32)), .val (.int (2 : Int32)), .val (.int (8 : Int32)), .val (.int (((6 : Int32) + (own_m a)) + (8 : Int32)))] [(.int (((6 : Int32) + (own_m a)) + (8 : Int32))), (.int (((6 : Int32) + (own_m a)) + (8 : Int32)))])) t_
        refine XS.icmpNo X24.here hx rfl (hb hby at_139) rfl (teq (rfl : (((6 : Int32) + (own_m a)) + (8 : Int32)) = (((6 : Int32) + (own_m a)) + (8 : Int32)))).2 ?_
        show Steps p_.tables e_ below (T24.setTop (mkF m_ 142 #[.val (.int a), .val (.int b), .val (.int flags), .val (.int ovLen), .val (.int ovPage), .val (.int fill), .val (.int (own_m a)), .val (.int (own_m b)), .val (.int (if (flags &&& (1 : Int32)) = (0 : Int32) then (0 : Int32) else 1)), .val (.ref b1), .val .null, .val (.ref b22), .val (.int (2 : Int32)), .val (.int (2 : Int32)), .val (.int (2 : Int32)), .val (.int (8 : Int32)), .val (.int (((6 : Int32) + (own_m a)) + (8 : Int32)))] [])) t_
        refine XS.iconst X24.here hx rfl (hb hby at_142) ?_
        show Steps p_.tables e_ below (T24.setTop (mkF m_ 143 #[.val (.int a), .val (.int b), .val (.int flags), .val (.int ovLen), .val (.int ovPage), .val (.int fill), .val (.int (own_m a)), .val (.int (own_m b)), .val (.int (if (flags &&& (1 : Int32)) = (0 : Int32) then (0 : Int32) else 1)), .val (.ref b1), .val .null, .val (.ref b22), .val (.int (2 : Int32)), .val (.int (2 : Int32)), .val (.int (2 : Int32)), .val (.int (8 : Int32)), .val (.int (((6 : Int32) + (own_m a)) + (8 : Int32)))] [(.int (1 : Int32))])) t_
        refine XS.goto X24.here hx rfl (pc0 := 143) (pc' := 147) rfl (hb hby at_143) (by decide) (by decide) ?_
        show Steps p_.tables e_ below (T24.setTop (mkF m_ 147 #[.val (.int a), .val (.int b), .val (.int flags), .val (.int ovLen), .val (.int ovPage), .val (.int fill), .val (.int (own_m a)), .val (.int (own_m b)), .val (.int (if (flags &&& (1 : Int32)) = (0 : Int32) then (0 : Int32) else 1)), .val (.ref b1), .val .null, .val (.ref b22), .val (.int (2 : Int32)), .val (.int (2 : Int32)), .val (.int (2 : Int32)), .val (.int (8 : Int32)), .val (.int (((6 : Int32) + (own_m a)) + (8 : Int32)))] [(.int (1 : Int32))])) t_
        exact k_
      refine own_retN X24 hx hlk (t := .boolean) hret (by simp) (hb hby at_147) (by decide) (by decide) ?_
      exact ⟨rfl, N24⟩
set_option maxRecDepth 65536 in
set_option maxHeartbeats 40000000 in
theorem comes_1 {Post : Tables → Env → Array Value → State → Outcome → State → Prop} (hpost : ∀ tb e args s v u, (limb_1_1.after args s (.returned v) u = true ∧ limb_1_2.after args s (.returned v) u = true ∧ True) → FrameEnd s (.returned v) u (Jvm.fieldLocs frame_1_writes args s ++ Jvm.arrayLocs frame_1_arrays args s ++ Jvm.staticLocs frame_1_statics s) 16 192 → Post tb e args s (.returned v) u) :
    ArmFor flags0 classFile x code maxLocals ret World_1 tables_1 room_1 Calls_1 rest_1 Pre_1 Post := by
  intro l hfl _ _ p e ha hc hk s m args below hf hA hF happ hP
  obtain ⟨hcalls, hrest, hpre⟩ := hP
  obtain ⟨-, -, -, hnamed, -, -, -, hat⟩ := (Spec.applies_iff hf).mp happ
  obtain ⟨hg, hn⟩ := and_e (Cond.before_iff.mp (show (Jvm.Cond.and given_1 narrow_1).before args s = true from hpre))
  obtain ⟨c0, r0⟩ := and_e hg
  obtain ⟨k0, r1⟩ := and_e r0
  obtain ⟨k1, r2⟩ := and_e r1
  obtain ⟨k2, r3⟩ := and_e r2
  obtain ⟨k3, r4⟩ := and_e r3
  obtain ⟨k4, r5⟩ := and_e r4
  obtain ⟨w0, w1, w2, w3, w4, w5, rfl⟩ : ∃ w0 w1 w2 w3 w4 w5 : Value, args = #[w0, w1, w2, w3, w4, w5] := by
    have hs : args.size = 6 := by simpa [Cond.value, given_1] using c0
    obtain ⟨L⟩ := args
    match L, hs with
    | [w0, w1, w2, w3, w4, w5], _ => exact ⟨w0, w1, w2, w3, w4, w5, rfl⟩
  have hw := fun d (hd : d ∈ tables_1) => atoms_spec (ws := Jvm.Cond.code x code maxLocals ret :: tables_1) hat d (List.mem_cons_of_mem _ hd)
  have hfit : Fit s := fun {y c} hc i hi => by
    obtain ⟨ha, rfl⟩ := Array.getElem?_eq_some_iff.mp hc
    have q := List.all_eq_true.mp ((Array.all_eq_true_iff_forall_mem.mp hF) _ (Array.getElem_mem ha)) i (List.mem_range.mpr hi)
    simpa [Array.getElem?_eq_getElem hi] using q
  obtain ⟨i0, ei0⟩ := is_v k0
  obtain rfl : w0 = (.int i0) := Option.some.inj ei0
  obtain ⟨i1, ei1⟩ := is_v k1
  obtain rfl : w1 = (.int i1) := Option.some.inj ei1
  obtain ⟨i2, ei2⟩ := is_v k2
  obtain rfl : w2 = (.int i2) := Option.some.inj ei2
  obtain ⟨i3, ei3⟩ := is_v k3
  obtain rfl : w3 = (.int i3) := Option.some.inj ei3
  obtain ⟨i4, ei4⟩ := is_v k4
  obtain rfl : w4 = (.int i4) := Option.some.inj ei4
  obtain ⟨i5, ei5⟩ := is_v r5
  obtain rfl : w5 = (.int i5) := Option.some.inj ei5
  obtain ⟨n, o, h1, h2, h3, _, L, rfl, ⟨rfl, N⟩, hq⟩ := rm0 l s _ hw i0 i1 i2 i3 i4 i5 s.heap s.heap.size (Nat.le_refl _)  tables_1 p e ha hc hk s m _ below hf ((Spec.applies_iff_loose hf).mp happ).1 ⟨rfl, State.Warmed39.refl s, rfl⟩ trivial
  refine ⟨n, _, h1, h2, h3, hpost _ _ _ _ _ _ ⟨Cond.after_iff.mpr rfl, Cond.after_iff.mpr (eq_i res_at (Term.int_eval (1)) rfl), trivial⟩ ⟨hq.1, hq.2.1, (hq.2.2.sift fun y hy => Or.inr (N y hy)).mono (by decide) (by decide)⟩⟩
theorem main_1_1 : Claimed_1_1 := comes_1 fun _ _ _ _ _ _ h hF => ⟨h.1, hF⟩
theorem main_1_2 : Claimed_1_2 := comes_1 fun _ _ _ _ _ _ h hF => ⟨h.2.1, hF⟩
end Jvm.Pilot.@@N@@
namespace Jvm.Pilot.@@N@@
open Jvm Jvm.ClassFile Sem Op Lib Jvm.Free Jvm.Stand Jvm.Pilot.@@N@@.Jvm.D
/-! MADE BY PROGRAM (witnessworld.py) out of the Statement's table words and the real class files: 10 classes; the members and pool entries that the words name. The judged class is class 1, her method 1. -/
namespace start1
open Jvm.ClassFile
def u (s : String) : CpInfo := .utf8 (stringToUtf16 s)
/-- a pool by its gaps: so many unusable entries, then the entry; so many at the end -/
def gap : Nat → List CpInfo → List CpInfo
  | 0, r => r
  | n + 1, r => .unusable :: gap n r
def poolList (es : List (Nat × CpInfo)) (last : Nat) : List CpInfo := es.foldr (fun e r => gap e.1 (e.2 :: r)) (gap last [])
def pool (es : List (Nat × CpInfo)) (last : Nat) : Array CpInfo := ⟨poolList es last⟩
def fileOf (pool : Array CpInfo) (this : Nat) (attrs : Array Attribute := #[]) (ms : Array MethodInfo := #[]) (fl : Nat := 33) (sup : Nat := 0) (ifs : Array Nat := #[]) (fds : Array FieldInfo := #[]) : ClassFile where
  minorVersion := 0
  majorVersion := 65
  constantPool := pool
  accessFlags := fl
  thisClass := this
  superClass := sup
  interfaces := ifs
  fields := fds
  methods := ms
  attributes := attrs
def plain (name : String) (sup : Option ClassId) : Class where
  name := name
  kind := .ordinary
  loader := none
  accessFlags := 33
  super := sup
  interfaces := #[]
  cf := none
  fields := #[]
  methods := #[]
  instanceTypes := #[]
  staticTypes := #[]
  resolved := #[]
  callSites := []
  init := .initialized
  statics := none
  mirror := none

def pool0 : Array CpInfo := pool [(5, u "<init>"), (0, u "()V"), (1, .class_ 10), (1, u "java/lang/Object")] 113

def k0c0 : Code := { maxStack := 0, maxLocals := 1, code := object_method_1_code, exceptionTable := #[], attributes := #[] }
def k0m0 : Method := { name := "<init>", desc := "()V", sig := { parameters := [], returnType := none }, accessFlags := 1, code := some k0c0 }
/-- java/lang/Object -/
def k0 : Class := { plain "java/lang/Object" none with
  accessFlags := 33
  interfaces := #[]
  cf := some (fileOf pool0 8 #[] #[{ accessFlags := 1, nameIndex := 5, descriptorIndex := 6, attributes := #[] }] 33 0 #[] #[])
  fields := #[]
  methods := #[k0m0]
  instanceTypes := #[]
  staticTypes := #[]
  resolved := Array.replicate 124 none
  statics := none }

def pool1 : Array CpInfo := pool [(2, .class_ 4), (1, u "java/lang/Object"), (0, u "<init>"), (0, u "()V"), (0, .class_ 8), (0, u "com/example/varrowkeep/varrowkeep/storage/Node$LeafCell"), (0, .methodref 7 10), (0, .nameAndType 5 11), (0, u "([B[BII)V"), (0, .methodref 7 13), (0, .nameAndType 14 15), (0, u "size"), (0, u "()I"), (0, .class_ 17), (0, u "com/example/varrowkeep/varrowkeep/storage/LeafCellSizePinLaw"), (2, u "law"), (0, u "(IIIIII)Z")] 9

def k1m0 : Method := { name := "<init>", desc := "()V", sig := { parameters := [], returnType := none }, accessFlags := 2, code := none }
def k1c1 : Code := { maxStack := 6, maxLocals := 17, code := code, exceptionTable := #[], attributes := #[] }
def k1m1 : Method := { name := "law", desc := "(IIIIII)Z", sig := { parameters := [.int, .int, .int, .int, .int, .int], returnType := some .boolean }, accessFlags := 9, code := some k1c1 }
/-- com/example/varrowkeep/varrowkeep/storage/LeafCellSizePinLaw -/
def k1 : Class := { plain "com/example/varrowkeep/varrowkeep/storage/LeafCellSizePinLaw" (some 0) with
  accessFlags := 49
  interfaces := #[]
  cf := some (fileOf pool1 16 #[] #[{ accessFlags := 2, nameIndex := 5, descriptorIndex := 6, attributes := #[] }, { accessFlags := 9, nameIndex := 20, descriptorIndex := 21, attributes := #[] }] 49 2 #[] #[])
  fields := #[]
  methods := #[k1m0, k1m1]
  instanceTypes := #[]
  staticTypes := #[]
  resolved := Array.replicate 31 none
  statics := none }

def pool2 : Array CpInfo := pool [(1, .methodref 2 3), (0, .class_ 4), (0, .nameAndType 5 6), (0, u "java/lang/Object"), (0, u "<init>"), (0, u "()V"), (0, .class_ 8), (0, u "java/lang/Record")] 13

def k2c0 : Code := { maxStack := 1, maxLocals := 1, code := jdk_30_method_1_code, exceptionTable := #[], attributes := #[] }
def k2m0 : Method := { name := "<init>", desc := "()V", sig := { parameters := [], returnType := none }, accessFlags := 4, code := some k2c0 }
/-- java/lang/Record -/
def k2 : Class := { plain "java/lang/Record" (some 0) with
  accessFlags := 1057
  interfaces := #[]
  cf := some (fileOf pool2 7 #[] #[{ accessFlags := 4, nameIndex := 5, descriptorIndex := 6, attributes := #[] }] 1057 2 #[] #[])
  fields := #[]
  methods := #[k2m0]
  instanceTypes := #[]
  staticTypes := #[]
  resolved := Array.replicate 22 none
  statics := none }

def pool3 : Array CpInfo := pool [(1, .methodref 2 3), (0, .class_ 4), (0, .nameAndType 5 6), (0, u "java/lang/Record"), (0, u "<init>"), (0, u "()V"), (0, .fieldref 8 9), (0, .class_ 10), (0, .nameAndType 11 12), (0, u "com/example/varrowkeep/varrowkeep/storage/Node$LeafCell"), (0, u "key"), (0, u "[B"), (0, .fieldref 8 14), (0, .nameAndType 15 12), (0, u "value"), (0, .fieldref 8 17), (0, .nameAndType 18 19), (0, u "overflowLength"), (0, u "I"), (0, .fieldref 8 21), (0, .nameAndType 22 19), (0, u "overflowPage"), (14, u "([B[BII)V"), (3, u "size"), (0, u "()I"), (7, .class_ 51), (0, u "com/example/varrowkeep/varrowkeep/storage/Node")] 22

def k3c0 : Code := { maxStack := 2, maxLocals := 5, code := prog_51_method_1_code, exceptionTable := #[], attributes := #[] }
def k3m0 : Method := { name := "<init>", desc := "([B[BII)V", sig := { parameters := [(.array .byte), (.array .byte), .int, .int], returnType := none }, accessFlags := 0, code := some k3c0 }
def k3c1 : Code := { maxStack := 2, maxLocals := 1, code := prog_51_method_2_code, exceptionTable := #[], attributes := #[] }
def k3m1 : Method := { name := "size", desc := "()I", sig := { parameters := [], returnType := some .int }, accessFlags := 0, code := some k3c1 }
/-- com/example/varrowkeep/varrowkeep/storage/Node$LeafCell -/
def k3 : Class := { plain "com/example/varrowkeep/varrowkeep/storage/Node$LeafCell" (some 2) with
  accessFlags := 48
  interfaces := #[]
  cf := some (fileOf pool3 8 #[.nestHost 50] #[{ accessFlags := 0, nameIndex := 5, descriptorIndex := 37, attributes := #[] }, { accessFlags := 0, nameIndex := 41, descriptorIndex := 42, attributes := #[] }] 48 2 #[] #[{ accessFlags := 18, nameIndex := 11, descriptorIndex := 12, attributes := #[] }, { accessFlags := 18, nameIndex := 15, descriptorIndex := 12, attributes := #[] }, { accessFlags := 18, nameIndex := 18, descriptorIndex := 19, attributes := #[] }, { accessFlags := 18, nameIndex := 22, descriptorIndex := 19, attributes := #[] }])
  fields := #[{ name := "key", type := (.array .byte), accessFlags := 18, slot := 0, constantValue := 0 }, { name := "value", type := (.array .byte), accessFlags := 18, slot := 1, constantValue := 0 }, { name := "overflowLength", type := .int, accessFlags := 18, slot := 2, constantValue := 0 }, { name := "overflowPage", type := .int, accessFlags := 18, slot := 3, constantValue := 0 }]
  methods := #[k3m0, k3m1]
  instanceTypes := #[(.array .byte), (.array .byte), .int, .int]
  staticTypes := #[]
  resolved := Array.replicate 74 none
  statics := none }

def pool4 : Array CpInfo := pool [(1, u "java/lang/Cloneable"), (0, .class_ 1), (0, u "java/lang/Object"), (0, .class_ 3)] 3

/-- java/lang/Cloneable -/
def k4 : Class := { plain "java/lang/Cloneable" (some 0) with
  accessFlags := 1537
  interfaces := #[]
  cf := some (fileOf pool4 2 #[] #[] 1537 4 #[] #[])
  fields := #[]
  methods := #[]
  instanceTypes := #[]
  staticTypes := #[]
  resolved := Array.replicate 8 none
  statics := none }

def pool5 : Array CpInfo := pool [(1, u "java/io/Serializable"), (0, .class_ 1), (0, u "java/lang/Object"), (0, .class_ 3)] 3

/-- java/io/Serializable -/
def k5 : Class := { plain "java/io/Serializable" (some 0) with
  accessFlags := 1537
  interfaces := #[]
  cf := some (fileOf pool5 2 #[] #[] 1537 4 #[] #[])
  fields := #[]
  methods := #[]
  instanceTypes := #[]
  staticTypes := #[]
  resolved := Array.replicate 8 none
  statics := none }

/-- the primitive byte -/
def k6 : Class := { plain "byte" none with kind := .primitive 'B', accessFlags := 0x411 }
/-- [B -/
def k7 : Class := { plain "[B" (some 0) with kind := .array 6 .byte, interfaces := #[4, 5], accessFlags := 1041 }

/-- the primitive int -/
def k8 : Class := { plain "int" none with kind := .primitive 'I', accessFlags := 0x411 }
/-- [I -/
def k9 : Class := { plain "[I" (some 0) with kind := .array 8 .int, interfaces := #[4, 5], accessFlags := 1041 }

def heap : Heap := #[]
def classes : Array Class := #[k0, k1, k2, k3, k4, k5, k6, k7, k8, k9]
def interned : List (Array UInt16 × Addr) := []
def slotsUsed : Nat := 0
def theMethod : MethodId := ⟨1, 1⟩
def args0 : Array Value := #[.int 5, .int 300, .int 7, .int 3, .int 1, .int 77]
def aboutOver (below : List Frame) : State where
  vm := { classes := classes, interned := interned.toArray }
  heap := heap
  slotsUsed := slotsUsed
  threads := #[{ frames := .invoking theMethod args0 :: below }]
def below0 : List Frame := [.native { method := ⟨0, 0⟩, args := #[] }]
def about1 : State := aboutOver below0
def p0 : Program := .bare "" "" ""
def e0 : Env := launch0.env 0 0 0
theorem w_frames : about1.frames = Frame.invoking theMethod args0 :: below0 := rfl
set_option maxRecDepth 65536 in
theorem w_args : argsFit about1.vm theMethod args0 = true := by decide +kernel
set_option maxRecDepth 65536 in
theorem w_heap : heapFits about1 = true := by decide +kernel
set_option maxRecDepth 65536 in
theorem w_runnable : about1.curStatus? = some .runnable := by decide +kernel
set_option maxRecDepth 65536 in
theorem w_alone : about1.alone = true := by decide +kernel
set_option maxRecDepth 65536 in
theorem w_named : about1.methodNamed? x = some theMethod := by decide +kernel
set_option maxRecDepth 65536 in
theorem w_hears : about1.hears theMethod below0 = true := by decide +kernel
set_option maxRecDepth 65536 in
theorem w_ripe : about1.ripe theMethod args0 below0 = true := by decide +kernel
theorem w_running : about1.status = .running := rfl
set_option maxRecDepth 65536 in
theorem w_room : about1.hasRoom e0.platform room_1 = true :=
  launch0.hasRoom_least _ room_1 (by decide +kernel) (by decide +kernel) (by decide +kernel) (by decide +kernel) (by decide +kernel) (by decide +kernel)
theorem allAtoms_all (ts : List Jvm.Cond) (a : Array Jvm.Value) (st : Jvm.State) : (allAtoms ts).before a st = ts.all (fun c => c.before a st) := by
  induction ts with
  | nil => rfl
  | cons c t ih =>
    show (Jvm.Cond.and c (allAtoms t)).before a st = _
    rw [Jvm.Cond.before_and, ih, List.all_cons]
def words1 : List Jvm.Cond := Jvm.Cond.code x code maxLocals ret :: tables_1
/-- a 'code' word, met by the world's own term for the bytes: nothing is compared byte by byte -/
theorem code_word {y : MethodName} {bytes : ByteArray} {mx : Nat} {rt : Option FieldType} {a : Array Value} {s : State} {m : MethodId} {meth : Method} {c : Code} (h1 : s.methodNamed? y = some m) (h2 : s.vm.method? m = some meth) (h3 : meth.code = some c) (h4 : c.code = bytes)
    (h5 : (c.maxLocals == mx && c.exceptionTable.isEmpty && decide (c.maxStack ≤ mostOperands) && decide (meth.sig.returnType = rt) && !meth.locks && decide (parseMethodDescriptor y.desc = some meth.sig)) = true) : (Jvm.Cond.code y bytes mx rt).before a s = true := by
  simp only [Bool.and_eq_true, beq_iff_eq, Bool.not_eq_true', decide_eq_true_eq] at h5
  obtain ⟨⟨⟨⟨⟨g1, g2⟩, g3⟩, g4⟩, g5⟩, g6⟩ := h5
  simp [Cond.before, Cond.holds, Cond.value, h1, h2, h3, h4, g1, g2, g3, g4, g5, g6]
def isCode : Jvm.Cond → Bool
  | .code _ _ _ _ => true
  | _ => false
theorem all_split {L : List Jvm.Cond} {P : Jvm.Cond → Bool} (h1 : L.all (fun c => isCode c || P c) = true) (h2 : ∀ c ∈ L.filter isCode, P c = true) : L.all P = true := by
  refine List.all_eq_true.mpr fun c hc => ?_
  have h := List.all_eq_true.mp h1 c hc
  rcases Bool.eq_false_or_eq_true (isCode c) with hi | hi
  · exact h2 c (List.mem_filter.mpr ⟨hc, hi⟩)
  · simpa [hi] using h
set_option maxRecDepth 65536 in
theorem w_c0 : (Jvm.Cond.code x code maxLocals ret).before args0 about1 = true := code_word (m := ⟨1, 1⟩) (meth := k1m1) (c := k1c1) (by decide +kernel) rfl rfl rfl (by decide +kernel)
set_option maxRecDepth 65536 in
theorem w_c1 : (Jvm.Cond.code ({ cls := "com/example/varrowkeep/varrowkeep/storage/Node$LeafCell", name := "<init>", desc := "([B[BII)V" } : Jvm.MethodName) prog_51_method_1_code (5 : Nat) (Option.none : Option Jvm.ClassFile.FieldType)).before args0 about1 = true := code_word (m := ⟨3, 0⟩) (meth := k3m0) (c := k3c0) (by decide +kernel) rfl rfl rfl (by decide +kernel)
set_option maxRecDepth 65536 in
theorem w_c2 : (Jvm.Cond.code ({ cls := "java/lang/Record", name := "<init>", desc := "()V" } : Jvm.MethodName) jdk_30_method_1_code (1 : Nat) (Option.none : Option Jvm.ClassFile.FieldType)).before args0 about1 = true := code_word (m := ⟨2, 0⟩) (meth := k2m0) (c := k2c0) (by decide +kernel) rfl rfl rfl (by decide +kernel)
set_option maxRecDepth 65536 in
theorem w_c3 : (Jvm.Cond.code ({ cls := "java/lang/Object", name := "<init>", desc := "()V" } : Jvm.MethodName) object_method_1_code (1 : Nat) (Option.none : Option Jvm.ClassFile.FieldType)).before args0 about1 = true := code_word (m := ⟨0, 0⟩) (meth := k0m0) (c := k0c0) (by decide +kernel) rfl rfl rfl (by decide +kernel)
set_option maxRecDepth 65536 in
theorem w_c4 : (Jvm.Cond.code ({ cls := "com/example/varrowkeep/varrowkeep/storage/Node$LeafCell", name := "size", desc := "()I" } : Jvm.MethodName) prog_51_method_2_code (1 : Nat) (Option.some Jvm.ClassFile.FieldType.int)).before args0 about1 = true := code_word (m := ⟨3, 1⟩) (meth := k3m1) (c := k3c1) (by decide +kernel) rfl rfl rfl (by decide +kernel)
def codes1 : List Jvm.Cond := [Jvm.Cond.code x code maxLocals ret, Jvm.Cond.code ({ cls := "com/example/varrowkeep/varrowkeep/storage/Node$LeafCell", name := "<init>", desc := "([B[BII)V" } : Jvm.MethodName) prog_51_method_1_code (5 : Nat) (Option.none : Option Jvm.ClassFile.FieldType), Jvm.Cond.code ({ cls := "java/lang/Record", name := "<init>", desc := "()V" } : Jvm.MethodName) jdk_30_method_1_code (1 : Nat) (Option.none : Option Jvm.ClassFile.FieldType), Jvm.Cond.code ({ cls := "java/lang/Object", name := "<init>", desc := "()V" } : Jvm.MethodName) object_method_1_code (1 : Nat) (Option.none : Option Jvm.ClassFile.FieldType), Jvm.Cond.code ({ cls := "com/example/varrowkeep/varrowkeep/storage/Node$LeafCell", name := "size", desc := "()I" } : Jvm.MethodName) prog_51_method_2_code (1 : Nat) (Option.some Jvm.ClassFile.FieldType.int)]
set_option maxRecDepth 65536 in
theorem codes_eq : words1.filter isCode = codes1 := rfl
theorem w_codes : ∀ c ∈ words1.filter isCode, c.before args0 about1 = true := by
  rw [codes_eq]
  intro c hc
  simp only [codes1, List.mem_cons, List.not_mem_nil, or_false] at hc
  rcases hc with rfl | rfl | rfl | rfl | rfl
  · exact w_c0
  · exact w_c1
  · exact w_c2
  · exact w_c3
  · exact w_c4
set_option maxRecDepth 65536 in
theorem w_t1 : (words1.take 24).all (fun c => isCode c || c.before args0 about1) = true := by decide +kernel
set_option maxRecDepth 65536 in
theorem w_t2 : (words1.drop 24).all (fun c => isCode c || c.before args0 about1) = true := by decide +kernel
theorem w_tables : (allAtoms (Jvm.Cond.code x code maxLocals ret :: tables_1)).before args0 about1 = true := by
  rw [allAtoms_all]
  show words1.all (fun c => c.before args0 about1) = true
  refine all_split ?_ w_codes
  rw [← List.take_append_drop 24 words1, List.all_append, w_t1, w_t2]
  rfl
set_option maxRecDepth 65536 in
theorem w_case : (Jvm.Cond.and given_1 narrow_1).before args0 about1 = true := by decide +kernel
theorem w_applies : (headSpec (Jvm.Cond.code x code maxLocals ret :: tables_1) room_1).applies x e0.platform about1 = true :=
  (Spec.applies_iff w_frames).mpr ⟨w_running, w_runnable, w_alone, w_named, w_hears, w_ripe, w_room, w_tables⟩
theorem atStart : AtStart classFile x code maxLocals ret World_1 tables_1 room_1 Calls_1 rest_1 Pre_1 launch0 p0 e0 about1 theMethod args0 below0 :=
  ⟨lists_1, trivial, launch0.admits_env _ _ _, launch0.least_env, fairChoices_fair.cas, fairChoices_fair.clock, w_frames, w_args, w_heap, w_applies, trivial, trivial, w_case⟩
end start1
theorem witness_1 : WitnessClaimed_1 := ⟨start1.p0, start1.e0, start1.about1, start1.theMethod, start1.args0, start1.below0, start1.atStart⟩
end Jvm.Pilot.@@N@@
