import JvmDerived
import JvmDerived.Pilot.@@N@@Statement
import JvmDerived.Pilot.@@N@@Code
set_option linter.unusedVariables false
set_option linter.unusedSimpArgs false
namespace Jvm.Pilot.@@N@@
open Jvm Jvm.ClassFile Sem Op Lib Jvm.Free Jvm.Stand Jvm.LawKit Jvm.RoadKit Bundle Jvm.Pilot.@@N@@.Jvm.D
/-! own_Out: from the frame g over T the run comes to a return of which Q speaks. A walk is a proof of own_Out from its entry, backwards step by step; so it may fork. -/
section OwnKit
variable {p : Program} {l : Launch} {e : Env} {R : Room} {s : State} {m : MethodId} {args : Array Value} {below : List Frame} {meth : Method} {c : Code} {T : State} {locs : List Loc} {cells slots kc ks : Nat} {Z : State} {a0 : Array Value} {h h' h0 : Heap} {Q : Option Value → Heap → List Loc → Prop} {g : JFrame}
def own_Out (p : Program) (e : Env) (below : List Frame) (s : State) (Q : Option Value → Heap → List Loc → Prop) (kc ks : Nat) (T : State) (g : JFrame) : Prop :=
  ∃ U o, Steps p.tables e below (T.setTop g) U ∧ U.status = .running ∧ Ended U below o ∧ ∃ v L, o = .returned v ∧ Q v U.heap L ∧ FrameEnd s o U L kc ks
theorem own_st (T' : State) (g' : JFrame) (st : ∀ t, Steps p.tables e below (T'.setTop g') t → Steps p.tables e below (T.setTop g) t) (k : own_Out p e below s Q kc ks T' g') : own_Out p e below s Q kc ks T g := by
  obtain ⟨U, o, h1, h2⟩ := k; exact ⟨U, o, st _ h1, h2⟩
theorem own_tr (T' : State) (g' : JFrame) (st : Steps p.tables e below (T.setTop g) (T'.setTop g')) (k : own_Out p e below s Q kc ks T' g') : own_Out p e below s Q kc ks T g := by
  obtain ⟨U, o, h1, h2⟩ := k; exact ⟨U, o, st.trans h1, h2⟩
theorem own_ret (X : Stand p l e R s m args below meth c T locs cells slots) (hx : p.tables.exec = Jvm.exec) (hlk : meth.locks = false) {pc : Nat} {Ls : Array Slot} {w : Value} {t : FieldType} {i : Instr} {rest : List Value} (hret : meth.sig.returnType = some t) (hn : narrow t w = w)
    (hi : (i = .ireturn ∧ (t = .int ∨ t = .boolean ∨ t = .byte ∨ t = .char ∨ t = .short) ∧ ∃ z, w = .int z) ∨ (i = .lreturn ∧ t = .long ∧ ∃ z, w = .long z) ∨ (i = .dreturn ∧ t = .double ∧ ∃ z, w = .double z) ∨ (i = .freturn ∧ t = .float ∧ ∃ z, w = .float z) ∨ (i = .areturn ∧ t.isReference = true ∧ w.isRef = true))
    (hd : decode c.code pc = .ok (i, 1)) (hc : cells ≤ kc) (hs : slots ≤ ks) (hq : Q (some w) T.heap locs) : own_Out p e below s Q kc ks T (mkF m pc Ls (w :: rest)) := by
  obtain ⟨fs, hr, hrun, hended, hW, hsame⟩ := X.leave (v := some w) (fun h => by rw [hret] at h; cases h) hlk
  exact ⟨_, _, retOut X hx hret hn hi hd hr, hrun, hended, _, _, rfl, hq, ⟨_, rfl⟩, hW, hsame.mono hc hs⟩
theorem own_retI (X : Stand p l e R s m args below meth c T locs cells slots) (hx : p.tables.exec = Jvm.exec) (hlk : meth.locks = false) {pc : Nat} {Ls : Array Slot} {z : Int32} {rest : List Value} (hret : meth.sig.returnType = some .int)
    (hd : decode c.code pc = .ok (.ireturn, 1)) (hc : cells ≤ kc) (hs : slots ≤ ks) (hq : Q (some (.int z)) T.heap locs) : own_Out p e below s Q kc ks T (mkF m pc Ls (.int z :: rest)) :=
  own_ret X hx hlk hret rfl (Or.inl ⟨rfl, Or.inl rfl, z, rfl⟩) hd hc hs hq
theorem own_retJ (X : Stand p l e R s m args below meth c T locs cells slots) (hx : p.tables.exec = Jvm.exec) (hlk : meth.locks = false) {pc : Nat} {Ls : Array Slot} {z : Int64} {rest : List Value} (hret : meth.sig.returnType = some .long)
    (hd : decode c.code pc = .ok (.lreturn, 1)) (hc : cells ≤ kc) (hs : slots ≤ ks) (hq : Q (some (.long z)) T.heap locs) : own_Out p e below s Q kc ks T (mkF m pc Ls (.long z :: rest)) :=
  own_ret X hx hlk hret rfl (Or.inr (Or.inl ⟨rfl, rfl, z, rfl⟩)) hd hc hs hq
theorem own_nref {t : FieldType} {w : Value} (ht : t.isReference = true) (hw : w.isRef = true) : narrow t w = w := by
  cases t <;> first | (cases ht; done) | (cases w <;> first | rfl | (cases hw; done))
theorem own_retA (X : Stand p l e R s m args below meth c T locs cells slots) (hx : p.tables.exec = Jvm.exec) (hlk : meth.locks = false) {pc : Nat} {Ls : Array Slot} {w : Value} {t : FieldType} {rest : List Value} (hret : meth.sig.returnType = some t) (ht : t.isReference = true) (hw : w.isRef = true)
    (hd : decode c.code pc = .ok (.areturn, 1)) (hc : cells ≤ kc) (hs : slots ≤ ks) (hq : Q (some w) T.heap locs) : own_Out p e below s Q kc ks T (mkF m pc Ls (w :: rest)) :=
  own_ret X hx hlk hret (own_nref ht hw) (Or.inr (Or.inr (Or.inr (Or.inr ⟨rfl, ht, hw⟩)))) hd hc hs hq
theorem own_retN (X : Stand p l e R s m args below meth c T locs cells slots) (hx : p.tables.exec = Jvm.exec) (hlk : meth.locks = false) {pc : Nat} {Ls : Array Slot} {z : Int32} {t : FieldType} {rest : List Value} (hret : meth.sig.returnType = some t) (ht : t = .boolean ∨ t = .byte ∨ t = .char ∨ t = .short)
    (hd : decode c.code pc = .ok (.ireturn, 1)) (hc : cells ≤ kc) (hs : slots ≤ ks) (hq : Q (some (.int (nar t z))) T.heap locs) : own_Out p e below s Q kc ks T (mkF m pc Ls (.int z :: rest)) := by
  obtain ⟨fs, hr, hrun, hended, hW, hsame⟩ := X.leave (v := some (.int (nar t z))) (fun h => by rw [hret] at h; cases h) hlk
  exact ⟨_, _, retN X hx hret ht hd hr, hrun, hended, _, _, rfl, hq, ⟨_, rfl⟩, hW, hsame.mono hc hs⟩
theorem own_ret0 (X : Stand p l e R s m args below meth c T locs cells slots) (hx : p.tables.exec = Jvm.exec) (hlk : meth.locks = false) {pc : Nat} {Ls : Array Slot} (hret : meth.sig.returnType = none)
    (hd : decode c.code pc = .ok (.return_, 1)) (hc : cells ≤ kc) (hs : slots ≤ ks) (hq : Q none T.heap locs) : own_Out p e below s Q kc ks T (mkF m pc Ls []) := by
  obtain ⟨fs, hr, hrun, hended, hW, hsame⟩ := X.leave (v := none) (fun _ => rfl) hlk
  exact ⟨_, _, X.returnOut hx hret hd hr, hrun, hended, _, _, rfl, hq, ⟨_, rfl⟩, hW, hsame.mono hc hs⟩
/-- a method's contract at the arguments as' over the heap h0 -/
def own_Met (l : Launch) (Z : State) (y : MethodName) (bytes : ByteArray) (maxL : Nat) (ret : Option FieldType) (rm : Room) (as' : Array Value) (h0 : Heap) (Q : Option Value → Heap → List Loc → Prop) : Prop :=
  ∀ ws : List Jvm.Cond, MetFree l y (head1 (Jvm.Cond.code y bytes maxL ret :: ws) rm) (fun a U => a = as' ∧ Z.Warmed39 U.vm ∧ U.heap = h0) (fun _ _ _ _ _ => True) (fun _ U o U' => ∃ v L, o = .returned v ∧ Q v U'.heap L ∧ FrameEnd U o U' L rm.cells rm.slots)
theorem own_body {y : MethodName} {bytes : ByteArray} {maxL : Nat} {ret : Option FieldType} {rm : Room} {as' : Array Value} (Ls : Array Slot) (hp : plainFor y = true) (hef : ∀ m, entryFrame m as' maxL = mkF m 0 Ls [])
    (hbody : ∀ (p : Program) (e : Env) (s : State) (m : MethodId) (below : List Frame) (meth : Method) (c : Code) (s₁ : State), Stand p l e rm s m as' below meth c s₁ [] 0 0 → p.tables.exec = Jvm.exec → c.code = bytes → c.maxLocals = maxL → meth.sig.returnType = ret → meth.locks = false → Z.Warmed39 s.vm → s.vm.findClass y.cls = some m.cls → meth.name = y.name → s₁.heap = h0 →
      own_Out p e below s Q rm.cells rm.slots s₁ (mkF m 0 Ls [])) : own_Met l Z y bytes maxL ret rm as' h0 Q := by
  intro ws
  refine MetFree.of_bodySF hp hisR ?_
  intro p e s m args below meth c s₁ Bd hml0 hP hK
  obtain ⟨rfl, hZ, hh⟩ := hP
  have X0 : Stand p l e rm s m args below meth c s₁ [] 0 0 := Stand.of_body Bd
  have e0 : s₁.heap = h0 := by rw [← hh, Bd.state]; rfl
  obtain ⟨U, o, h1, h2⟩ := hbody p e s m below meth c s₁ X0 Bd.exec Bd.bytes hml0 Bd.returns Bd.notSynchronized hZ (findClass_of_methodNamed Bd.named) (name_of_methodNamed Bd.named Bd.method).1 e0
  exact ⟨U, o, castTop (hef m) h1, h2⟩
theorem own_callS (X : Stand p l e R s m args below meth c T locs cells slots) (hx : p.tables.exec = Jvm.exec) (hZ : Z.Warmed39 s.vm) {own : String} {index : Nat} {y : MethodName} {bytes : ByteArray} {maxL : Nat} {ret : Option FieldType} (hown : s.vm.findClass own = some m.cls)
    (w1 : (Cond.methodLink own index y).before a0 Z = true) (w2 : (Cond.static y).before a0 Z = true) (w3 : (Cond.initialized y.cls).before a0 Z = true) (w4 : (Cond.code y bytes maxL ret).before a0 Z = true) (hy : y.cls ≠ "java/lang/invoke/MethodHandle" ∧ y.cls ≠ "java/lang/invoke/VarHandle")
    {rm : Room} (argsL rest : List Value) {Qc : Option Value → Heap → List Loc → Prop} (M : own_Met l Z y bytes maxL ret rm argsL.toArray h Qc) (W : Nat) (hf : rm.frames + 1 ≤ R.frames) (hl : W + (maxL + 11) + rm.locals ≤ R.locals) (eT : T.heap = h)
    {pc : Nat} {Ls : Array Slot} {st : List Value} (hsize : Ls.size = c.maxLocals) (hlen : ∀ sig, parseMethodDescriptor y.desc = some sig → argsL.length = sig.parameters.length) (hstack : st = argsL.reverse ++ rest) (hW : (rest.map fun v => v.category).sum ≤ W)
    (hd : decode c.code pc = .ok (.invokestatic index, 3)) (hc : cells + rm.cells ≤ R.cells) (hs : slots + rm.slots ≤ R.slots)
    (k : ∀ v T' L, Stand p l e R s m args below meth c T' (locs ++ L) (cells + rm.cells) (slots + rm.slots) → Qc v T'.heap L → own_Out p e below s Q kc ks T' (mkF m (pc + 3) Ls (v.toList ++ rest))) : own_Out p e below s Q kc ks T (mkF m pc Ls st) := by
  obtain ⟨v, vm1, ⟨T', L', c', n'⟩, -, X', ⟨L, hQ, r1, r2, r3⟩, stp⟩ := Jvm.LawKit.callS X hx (y := y) (bytes := bytes) (maxL := maxL) (ret := ret) hown (mvT hZ w1) (mvT hZ w2) (mvT hZ w3) (mvT hZ w4) hy (backOf (W := W) (M []) hZ w4 w3 hf hl) (g := mkF m pc Ls st) rfl hsize (argsL := argsL) (rest := rest) hlen hstack (by show 2 * 0 + _ ≤ _; omega) hd (fun _ _ => ⟨rfl, eT, hc, hs⟩)
  dsimp only [Pt.U, Pt.locs, Pt.cells, Pt.slots] at X' r1 r2 r3 stp hQ
  subst r1 r2 r3
  exact own_st _ _ stp (k v T' L X' hQ)
theorem own_callC (X : Stand p l e R s m args below meth c T locs cells slots) (hx : p.tables.exec = Jvm.exec) (hZ : Z.Warmed39 s.vm) {own : String} {index : Nat} {y : MethodName} {bytes : ByteArray} {maxL : Nat} (hy1 : y.name = "<init>") (hown : s.vm.findClass own = some m.cls)
    (w1 : (Cond.methodLink own index y).before a0 Z = true) (w2 : (Cond.instanceMethod y).before a0 Z = true) (w3 : (Cond.initialized y.cls).before a0 Z = true) (w4 : (Cond.code y bytes maxL none).before a0 Z = true) (hy : y.cls ≠ "java/lang/invoke/MethodHandle" ∧ y.cls ≠ "java/lang/invoke/VarHandle")
    {rm : Room} (a : Addr) (argsL rest : List Value) {Qc : Option Value → Heap → List Loc → Prop} (M : own_Met l Z y bytes maxL none rm (.ref a :: argsL).toArray h Qc) (W : Nat) (hf : rm.frames + 1 ≤ R.frames) (hl : W + (maxL + 11) + rm.locals ≤ R.locals) (eT : T.heap = h)
    {pc : Nat} {Ls : Array Slot} {st : List Value} (hsize : Ls.size = c.maxLocals) (hlen : ∀ sig, parseMethodDescriptor y.desc = some sig → argsL.length = sig.parameters.length) (hstack : st = argsL.reverse ++ .ref a :: rest) (hW : (rest.map fun v => v.category).sum ≤ W)
    (hd : decode c.code pc = .ok (.invokespecial index, 3)) (hc : cells + rm.cells ≤ R.cells) (hs : slots + rm.slots ≤ R.slots)
    (k : ∀ v T' L, Stand p l e R s m args below meth c T' (locs ++ L) (cells + rm.cells) (slots + rm.slots) → Qc v T'.heap L → own_Out p e below s Q kc ks T' (mkF m (pc + 3) Ls (v.toList ++ rest))) : own_Out p e below s Q kc ks T (mkF m pc Ls st) := by
  obtain ⟨v, vm1, ⟨T', L', c', n'⟩, -, X', ⟨L, hQ, r1, r2, r3⟩, stp⟩ := X.specialBack hx (y := y) (bytes := bytes) (maxL := maxL) hy1 hown (mvT hZ w1) (mvT hZ w2) (mvT hZ w4) hy (backOf (W := W) (M []) hZ w4 w3 hf hl) (g := mkF m pc Ls st) rfl hsize (Steps.refl _) (a := a) (argsL := argsL) (rest := rest) hlen hstack (by show 2 * 0 + _ ≤ _; omega) hd (fun _ _ => ⟨rfl, eT, hc, hs⟩)
  dsimp only [Pt.U, Pt.locs, Pt.cells, Pt.slots] at X' r1 r2 r3 stp hQ
  subst r1 r2 r3
  exact own_tr _ _ stp (k v T' L X' hQ)
theorem own_callV (X : Stand p l e R s m args below meth c T locs cells slots) (hx : p.tables.exec = Jvm.exec) (hZ : Z.Warmed39 s.vm) {own C : String} {index : Nat} {y z : MethodName} {bytes : ByteArray} {maxL : Nat} {ret : Option FieldType} (hown : s.vm.findClass own = some m.cls)
    (w1 : (Cond.methodLink own index y).before a0 Z = true) (w2 : (Cond.declares y).before a0 Z = true) (hnf : NotFace s y) (w5 : (Cond.selects C y z).before a0 Z = true) (w6 : (Cond.instanceMethod z).before a0 Z = true) (w3 : (Cond.initialized z.cls).before a0 Z = true) (w4 : (Cond.code z bytes maxL ret).before a0 Z = true) (hy : y.cls ≠ "java/lang/invoke/MethodHandle" ∧ y.cls ≠ "java/lang/invoke/VarHandle")
    {rm : Room} (a : Addr) (argsL rest : List Value) {Qc : Option Value → Heap → List Loc → Prop} (E : Exa Z h a C) (M : own_Met l Z z bytes maxL ret rm (.ref a :: argsL).toArray h Qc) (W : Nat) (hf : rm.frames + 1 ≤ R.frames) (hl : W + (maxL + 11) + rm.locals ≤ R.locals) (eT : T.heap = h)
    {pc : Nat} {Ls : Array Slot} {st : List Value} (hsize : Ls.size = c.maxLocals) (hlen : ∀ sig, parseMethodDescriptor y.desc = some sig → argsL.length = sig.parameters.length) (hstack : st = argsL.reverse ++ .ref a :: rest) (hW : (rest.map fun v => v.category).sum ≤ W)
    (hd : decode c.code pc = .ok (.invokevirtual index, 3)) (hc : cells + rm.cells ≤ R.cells) (hs : slots + rm.slots ≤ R.slots)
    (k : ∀ v T' L, Stand p l e R s m args below meth c T' (locs ++ L) (cells + rm.cells) (slots + rm.slots) → Qc v T'.heap L → own_Out p e below s Q kc ks T' (mkF m (pc + 3) Ls (v.toList ++ rest))) : own_Out p e below s Q kc ks T (mkF m pc Ls st) := by
  obtain ⟨cq, kq, qa, qb, qc⟩ := isOf hZ eT E
  obtain ⟨v, vm1, ⟨T', L', c', n'⟩, -, X', ⟨L, hQ, r1, r2, r3⟩, stp⟩ := X.virtualBack hx (y := y) (z := z) hown (mvT hZ w1) (mvT hZ w2) hnf (mvT hZ w5) (mvT hZ w6) hy (backOf (W := W) (M []) hZ w4 w3 hf hl) qa qc (g := mkF m pc Ls st) rfl hsize (Steps.refl _) (argsL := argsL) (rest := rest) hlen hstack (by show 2 * 0 + _ ≤ _; omega) hd (fun _ _ => ⟨rfl, eT, hc, hs⟩)
  dsimp only [Pt.U, Pt.locs, Pt.cells, Pt.slots] at X' r1 r2 r3 stp hQ
  subst r1 r2 r3
  exact own_tr _ _ stp (k v T' L X' hQ)
theorem own_callI (X : Stand p l e R s m args below meth c T locs cells slots) (hx : p.tables.exec = Jvm.exec) (hZ : Z.Warmed39 s.vm) {own C : String} {index count : Nat} {xi y : MethodName} {bytes : ByteArray} {maxL : Nat} {ret : Option FieldType} (hown : s.vm.findClass own = some m.cls)
    (w1 : (Cond.methodLink own index xi).before args s = true) (w2 : (Cond.declares xi).before args s = true) (w7 : (Cond.interfaceMethod xi.cls xi.cls xi.name xi.desc).before args s = true) (w5 : (Cond.selects C xi y).before args s = true) (w6 : (Cond.instanceMethod y).before args s = true) (w8 : (Cond.publicMethod y).before args s = true) (w9 : (Cond.unhidden C xi.name xi.desc).before args s = true) (w10 : (Cond.castable C xi.cls).before args s = true) (w3 : (Cond.initialized y.cls).before a0 Z = true) (w4 : (Cond.code y bytes maxL ret).before a0 Z = true) (hy : xi.cls ≠ "java/lang/invoke/MethodHandle" ∧ xi.cls ≠ "java/lang/invoke/VarHandle")
    {rm : Room} (a : Addr) (argsL rest : List Value) {Qc : Option Value → Heap → List Loc → Prop} (E : Exa Z h a C) (M : own_Met l Z y bytes maxL ret rm (.ref a :: argsL).toArray h Qc) (W : Nat) (hf : rm.frames + 1 ≤ R.frames) (hl : W + (maxL + 11) + rm.locals ≤ R.locals) (eT : T.heap = h)
    {pc : Nat} {Ls : Array Slot} {st : List Value} (hsize : Ls.size = c.maxLocals) (hlen : ∀ sig, parseMethodDescriptor xi.desc = some sig → argsL.length = sig.parameters.length) (hstack : st = argsL.reverse ++ .ref a :: rest) (hW : (rest.map fun v => v.category).sum ≤ W)
    (hd : decode c.code pc = .ok (.invokeinterface index count, 5)) (hc : cells + rm.cells ≤ R.cells) (hs : slots + rm.slots ≤ R.slots)
    (k : ∀ v T' L, Stand p l e R s m args below meth c T' (locs ++ L) (cells + rm.cells) (slots + rm.slots) → Qc v T'.heap L → own_Out p e below s Q kc ks T' (mkF m (pc + 5) Ls (v.toList ++ rest))) : own_Out p e below s Q kc ks T (mkF m pc Ls st) := by
  obtain ⟨cq, kq, qa, qb, qc⟩ := isOf hZ eT E
  obtain ⟨v, vm1, ⟨T', L', c', n'⟩, -, X', ⟨L, hQ, r1, r2, r3⟩, stp⟩ := X.interfaceBack hx (xi := xi) (y := y) hown w1 w2 w7 w5 w6 w8 w9 w10 hy (backOf (W := W) (M []) hZ w4 w3 hf hl) qa qb qc (g := mkF m pc Ls st) rfl hsize (Steps.refl _) (argsL := argsL) (rest := rest) hlen hstack (by show 2 * 0 + _ ≤ _; omega) hd (fun _ _ => ⟨rfl, eT, hc, hs⟩)
  dsimp only [Pt.U, Pt.locs, Pt.cells, Pt.slots] at X' r1 r2 r3 stp hQ
  subst r1 r2 r3
  exact own_tr _ _ stp (k v T' L X' hQ)
theorem own_callP (X : Stand p l e R s m args below meth c T locs cells slots) (hx : p.tables.exec = Jvm.exec) (hZ : Z.Warmed39 s.vm) {own : String} {index : Nat} {y : MethodName} {bytes : ByteArray} {maxL : Nat} {ret : Option FieldType} (hown : s.vm.findClass own = some m.cls)
    (w1 : (Cond.methodLink own index y).before a0 Z = true) (w2 : (Cond.instanceMethod y).before a0 Z = true) (w5 : (Cond.selects y.cls y y).before a0 Z = true) (w6 : (Cond.privateMethod y).before a0 Z = true) (w3 : (Cond.initialized y.cls).before a0 Z = true) (w4 : (Cond.code y bytes maxL ret).before a0 Z = true) (hy : y.cls ≠ "java/lang/invoke/MethodHandle" ∧ y.cls ≠ "java/lang/invoke/VarHandle")
    {rm : Room} (a : Addr) (argsL rest : List Value) {C : String} {Qc : Option Value → Heap → List Loc → Prop} (E : Exa Z h a C) (M : own_Met l Z y bytes maxL ret rm (.ref a :: argsL).toArray h Qc) (W : Nat) (hf : rm.frames + 1 ≤ R.frames) (hl : W + (maxL + 11) + rm.locals ≤ R.locals) (eT : T.heap = h)
    {pc : Nat} {Ls : Array Slot} {st : List Value} (hsize : Ls.size = c.maxLocals) (hlen : ∀ sig, parseMethodDescriptor y.desc = some sig → argsL.length = sig.parameters.length) (hstack : st = argsL.reverse ++ .ref a :: rest) (hW : (rest.map fun v => v.category).sum ≤ W)
    (hd : decode c.code pc = .ok (.invokevirtual index, 3)) (hc : cells + rm.cells ≤ R.cells) (hs : slots + rm.slots ≤ R.slots)
    (k : ∀ v T' L, Stand p l e R s m args below meth c T' (locs ++ L) (cells + rm.cells) (slots + rm.slots) → Qc v T'.heap L → own_Out p e below s Q kc ks T' (mkF m (pc + 3) Ls (v.toList ++ rest))) : own_Out p e below s Q kc ks T (mkF m pc Ls st) := by
  obtain ⟨cq, qa, qb⟩ := E.cell
  obtain ⟨v, vm1, ⟨T', L', c', n'⟩, -, X', ⟨L, hQ, r1, r2, r3⟩, stp⟩ := X.privateBack hx (y := y) (bytes := bytes) (maxL := maxL) (ret := ret) hown (mvT hZ w1) (mvT hZ w2) (mvT hZ w5) (Cond.privateMethod_at (mvP hZ w6 (args := #[]))) (mvT hZ w4) hy (backOf (W := W) (M []) hZ w4 w3 hf hl) (g := mkF m pc Ls st) rfl hsize (Steps.refl _) (a := a) (by rw [eT]; exact qa) qb (argsL := argsL) (rest := rest) hlen hstack (by show 2 * 0 + _ ≤ _; omega) hd (fun _ _ => ⟨rfl, eT, hc, hs⟩)
  dsimp only [Pt.U, Pt.locs, Pt.cells, Pt.slots] at X' r1 r2 r3 stp hQ
  subst r1 r2 r3
  exact own_tr _ _ stp (k v T' L X' hQ)
/-- an array by its values: n places, place i holds f i -/
def own_A (Z : State) (h : Heap) (a : Addr) (k : ClassId) (ty : FieldType) (n : Nat) (f : Nat → Value) : Prop := ∃ cl : Cell, Arr Z h a cl ty ∧ cl.cls = k ∧ cl.slots.size = n ∧ n < 2 ^ 31 ∧ ∀ i, i < n → cl.slots[i]? = some (f i)
variable {a b : Addr} {k : ClassId} {ty : FieldType} {n : Nat} {f f' : Nat → Value} {sl : Nat} {v : Value} {ws : List Addr}
theorem own_A.lt (F : own_A Z h a k ty n f) : a < h.size := by obtain ⟨c, A, -⟩ := F; exact A.lt
theorem own_A.ext (F : own_A Z h a k ty n f) (E : Ext h h') : own_A Z h' a k ty n f := by obtain ⟨c, A, r⟩ := F; exact ⟨c, A.ext E, r⟩
theorem own_A.other (F : own_A Z h b k ty n f) (W : Wr h h' a sl v) (q : b ≠ a) : own_A Z h' b k ty n f := by obtain ⟨c, A, r⟩ := F; exact ⟨c, A.other W q, r⟩
theorem own_A.keep (F : own_A Z h a k ty n f) (K : Keep h h' ws) (q : a ∉ ws) : own_A Z h' a k ty n f := by obtain ⟨c, A, r⟩ := F; exact ⟨c, ⟨K.2.1 a c A.1 q, A.2⟩, r⟩
theorem own_A.cong (F : own_A Z h a k ty n f) (q : ∀ i, i < n → f i = f' i) : own_A Z h a k ty n f' := by obtain ⟨c, A, r1, r2, r3, r4⟩ := F; exact ⟨c, A, r1, r2, r3, fun i hi => by rw [r4 i hi, q i hi]⟩
theorem own_A.new {z : Int32} (A : Arr Z h a (newA k ty z) ty) (q : ¬ z < 0) : own_A Z h a k ty z.toNatClampNeg (fun _ => defaultValue ty) := ⟨_, A, rfl, sz_new _ _ _, (back32 q).2, fun i hi => by simp [newA, hi]⟩
theorem own_A.newL {z : Int32} (A : Arr Z h a (newA k ty z) ty) (q : ¬ z < 0) (n : Nat) (hn : z.toNatClampNeg = n) (d : Value) (hd : defaultValue ty = d) : own_A Z h a k ty n (fun i => (List.replicate n d).getD i d) := by
  subst hn hd
  refine (own_A.new A q).cong fun i hi => ?_
  simp [List.getD_eq_getElem?_getD, List.getElem?_replicate, hi]
theorem own_jn {j : Int32} {i : Nat} (q : j.toInt = (i : Int)) : j.toNatClampNeg = i := by simp only [Int32.toNatClampNeg]; omega
theorem own_in {j : Int32} {i n : Nat} {cl : Cell} (q : j.toInt = (i : Int)) (hi : i < n) (S : cl.slots.size = n) : ¬ (j < 0 ∨ cl.slots.size ≤ j.toNatClampNeg) := by
  rw [own_jn q, Int32.lt_iff_toInt_lt, q, S]; have : (0 : Int32).toInt = 0 := rfl; omega
theorem own_A.set (F : own_A Z h a k ty n f) {i : Nat} (hi : i < n) (W : Wr h h' a i v) : own_A Z h' a k ty n (fun x => if x = i then v else f x) := by
  obtain ⟨cl, A, r1, r2, r3, r4⟩ := F
  refine ⟨_, A.same W, r1, by rw [sz_set]; exact r2, r3, fun x hx => ?_⟩
  by_cases q : x = i
  · subst q; simp [Cell.setSlot, r2, hi]
  · show (cl.slots.setIfInBounds i v)[x]? = _
    rw [Array.getElem?_setIfInBounds_ne (Ne.symm q)]; simp only [q, if_false]; exact r4 x hx
theorem own_A.setL {L : List Value} {d : Value} (F : own_A Z h a k ty n (fun x => L.getD x d)) {i : Nat} (hi : i < n) (hL : i < L.length) (W : Wr h h' a i v) : own_A Z h' a k ty n (fun x => (L.set i v).getD x d) := by
  refine (F.set hi W).cong fun x hx => ?_
  by_cases q : x = i
  · subst q; simp [List.getD_eq_getElem?_getD, List.getElem?_set, hL]
  · simp [List.getD_eq_getElem?_getD, List.getElem?_set, q, Ne.symm q]
theorem own_A.setI {b : Nat → Int32} {x : Int32} (F : own_A Z h a k ty n (fun y => .int (b y))) {i : Nat} (hi : i < n) (W : Wr h h' a i (.int x)) : own_A Z h' a k ty n (fun y => .int (if y = i then x else b y)) := by
  refine (F.set hi W).cong fun y hy => ?_
  by_cases q : y = i <;> simp [q]
theorem own_A.setLI {L : List Int32} {x : Int32} (F : own_A Z h a k ty n (fun y => .int (L.getD y 0))) {i : Nat} (hi : i < n) (hL : i < L.length) (W : Wr h h' a i (.int x)) : own_A Z h' a k ty n (fun y => .int ((L.set i x).getD y 0)) := by
  refine (F.setI hi W).cong fun y hy => ?_
  by_cases q : y = i
  · subst q; simp [List.getD_eq_getElem?_getD, List.getElem?_set, hL]
  · simp [List.getD_eq_getElem?_getD, List.getElem?_set, q, Ne.symm q]
theorem own_A.snocI {L : List Int32} {x : Int32} (F : own_A Z h a k ty n (fun y => .int (L.getD y 0))) {i : Nat} (hi : i < n) (hL : L.length = i) (W : Wr h h' a i (.int x)) : own_A Z h' a k ty n (fun y => .int ((L ++ [x]).getD y 0)) := by
  refine (F.setI hi W).cong fun y hy => ?_
  by_cases q : y = i
  · subst q; subst hL; simp [List.getD_eq_getElem?_getD]
  · by_cases r : y < L.length
    · simp [List.getD_eq_getElem?_getD, q, List.getElem?_append_left r]
    · have h1 : L[y]? = none := List.getElem?_eq_none (by omega)
      have h2 : (L ++ [x])[y]? = none := List.getElem?_eq_none (by simp; omega)
      simp [List.getD_eq_getElem?_getD, q, h1, h2]
theorem own_A.newI {z : Int32} (A : Arr Z h a (newA k ty z) ty) (q : ¬ z < 0) (n : Nat) (hn : z.toNatClampNeg = n) (hd : defaultValue ty = .int 0) : own_A Z h a k ty n (fun _ => .int 0) := by
  subst hn; rw [← hd]; exact own_A.new A q
theorem own_A.newLI {z : Int32} (A : Arr Z h a (newA k ty z) ty) (q : ¬ z < 0) (n : Nat) (hn : z.toNatClampNeg = n) (hd : defaultValue ty = .int 0) : own_A Z h a k ty n (fun y => .int ((List.replicate n (0 : Int32)).getD y 0)) := by
  refine (own_A.newI A q n hn hd).cong fun i hi => ?_
  simp [List.getD_eq_getElem?_getD, List.getElem?_replicate, hi]
theorem own_stI (X : Stand p l e R s m args below meth c T locs cells slots) (hx : p.tables.exec = Jvm.exec) (hZ : Z.Warmed39 s.vm) (eT : T.heap = h) (F : own_A Z h a k .int n f) {j x : Int32} (i : Nat) (q : j.toInt = (i : Int)) (hi : i < n) {pc : Nat} {Ls : Array Slot} {rest : List Value} (hd : decode c.code pc = .ok (.iastore, 1)) :
    ∃ T' h', Stand p l e R s m args below meth c T' (locs ++ [⟨a, i⟩]) cells slots ∧ T'.heap = h' ∧ Wr h h' a i (.int x) ∧ ∀ t, Steps p.tables e below (T'.setTop (mkF m (pc + 1) Ls rest)) t → Steps p.tables e below (T.setTop (mkF m pc Ls (.int x :: .int j :: .ref a :: rest))) t := by
  obtain ⟨cl, A, r1, r2, r3, r4⟩ := F
  have := stI X hx hZ eT A (j := j) (x := x) (own_in q hi r2) (g := mkF m pc Ls (.int x :: .int j :: .ref a :: rest)) rfl rfl hd
  rw [own_jn q] at this; exact this
theorem own_stB (X : Stand p l e R s m args below meth c T locs cells slots) (hx : p.tables.exec = Jvm.exec) (hZ : Z.Warmed39 s.vm) (eT : T.heap = h) (F : own_A Z h a k .byte n f) {j x : Int32} (x' : Int32) (hx' : nar .byte x = x') (i : Nat) (q : j.toInt = (i : Int)) (hi : i < n) {pc : Nat} {Ls : Array Slot} {rest : List Value} (hd : decode c.code pc = .ok (.bastore, 1)) :
    ∃ T' h', Stand p l e R s m args below meth c T' (locs ++ [⟨a, i⟩]) cells slots ∧ T'.heap = h' ∧ Wr h h' a i (.int x') ∧ ∀ t, Steps p.tables e below (T'.setTop (mkF m (pc + 1) Ls rest)) t → Steps p.tables e below (T.setTop (mkF m pc Ls (.int x :: .int j :: .ref a :: rest))) t := by
  obtain ⟨cl, A, r1, r2, r3, r4⟩ := F
  have := stB X hx hZ eT A (j := j) (x := x) (own_in q hi r2) (g := mkF m pc Ls (.int x :: .int j :: .ref a :: rest)) rfl rfl hd
  rw [own_jn q] at this; subst hx'; exact this
theorem own_stC (X : Stand p l e R s m args below meth c T locs cells slots) (hx : p.tables.exec = Jvm.exec) (hZ : Z.Warmed39 s.vm) (eT : T.heap = h) (F : own_A Z h a k .char n f) {j x : Int32} (x' : Int32) (hx' : nar .char x = x') (i : Nat) (q : j.toInt = (i : Int)) (hi : i < n) {pc : Nat} {Ls : Array Slot} {rest : List Value} (hd : decode c.code pc = .ok (.castore, 1)) :
    ∃ T' h', Stand p l e R s m args below meth c T' (locs ++ [⟨a, i⟩]) cells slots ∧ T'.heap = h' ∧ Wr h h' a i (.int x') ∧ ∀ t, Steps p.tables e below (T'.setTop (mkF m (pc + 1) Ls rest)) t → Steps p.tables e below (T.setTop (mkF m pc Ls (.int x :: .int j :: .ref a :: rest))) t := by
  obtain ⟨cl, A, r1, r2, r3, r4⟩ := F
  have := stC X hx hZ eT A (j := j) (x := x) (own_in q hi r2) (g := mkF m pc Ls (.int x :: .int j :: .ref a :: rest)) rfl rfl hd
  rw [own_jn q] at this; subst hx'; exact this
theorem own_stR (X : Stand p l e R s m args below meth c T locs cells slots) (hx : p.tables.exec = Jvm.exec) (hZ : Z.Warmed39 s.vm) (eT : T.heap = h) {C : String} (F : own_A Z h a k (.object C) n f) {j : Int32} {v : Value} (O : Ovr Z k C) (I : v = .null ∨ ∃ y, v = .ref y ∧ Ins Z h y C true) (i : Nat) (q : j.toInt = (i : Int)) (hi : i < n) {pc : Nat} {Ls : Array Slot} {rest : List Value} (hd : decode c.code pc = .ok (.aastore, 1)) :
    ∃ T' h', Stand p l e R s m args below meth c T' (locs ++ [⟨a, i⟩]) cells slots ∧ T'.heap = h' ∧ Wr h h' a i v ∧ ∀ t, Steps p.tables e below (T'.setTop (mkF m (pc + 1) Ls rest)) t → Steps p.tables e below (T.setTop (mkF m pc Ls (v :: .int j :: .ref a :: rest))) t := by
  obtain ⟨cl, A, r1, r2, r3, r4⟩ := F
  have S : Sto Z h a v := by
    rcases I with rfl | ⟨y, rfl, I⟩
    · exact Or.inl rfl
    · exact Sto.ofV A r1 O I
  have := stR X hx hZ eT A (j := j) (own_in q hi r2) rfl S (g := mkF m pc Ls (v :: .int j :: .ref a :: rest)) rfl rfl hd
  rw [own_jn q] at this; exact this
theorem own_stRA (X : Stand p l e R s m args below meth c T locs cells slots) (hx : p.tables.exec = Jvm.exec) (hZ : Z.Warmed39 s.vm) (eT : T.heap = h) {C : String} {t0 : FieldType} (F : own_A Z h a k (.array t0) n f) {j : Int32} {v : Value} (O : OvrA Z k t0 C) (I : v = .null ∨ ∃ y, v = .ref y ∧ Ins Z h y C true) (i : Nat) (q : j.toInt = (i : Int)) (hi : i < n) {pc : Nat} {Ls : Array Slot} {rest : List Value} (hd : decode c.code pc = .ok (.aastore, 1)) :
    ∃ T' h', Stand p l e R s m args below meth c T' (locs ++ [⟨a, i⟩]) cells slots ∧ T'.heap = h' ∧ Wr h h' a i v ∧ ∀ t, Steps p.tables e below (T'.setTop (mkF m (pc + 1) Ls rest)) t → Steps p.tables e below (T.setTop (mkF m pc Ls (v :: .int j :: .ref a :: rest))) t := by
  obtain ⟨cl, A, r1, r2, r3, r4⟩ := F
  have S : Sto Z h a v := by
    rcases I with rfl | ⟨y, rfl, I⟩
    · exact Or.inl rfl
    · exact Sto.ofVA A r1 O I
  have := stR X hx hZ eT A (j := j) (own_in q hi r2) rfl S (g := mkF m pc Ls (v :: .int j :: .ref a :: rest)) rfl rfl hd
  rw [own_jn q] at this; exact this
theorem own_ldI (X : Stand p l e R s m args below meth c T locs cells slots) (hx : p.tables.exec = Jvm.exec) (hZ : Z.Warmed39 s.vm) (eT : T.heap = h) (F : own_A Z h a k .int n f) {j : Int32} (i : Nat) (q : j.toInt = (i : Int)) (hi : i < n) {pc : Nat} {Ls : Array Slot} {rest : List Value} (hd : decode c.code pc = .ok (.iaload, 1)) :
    ∀ t, Steps p.tables e below (T.setTop (mkF m (pc + 1) Ls (f i :: rest))) t → Steps p.tables e below (T.setTop (mkF m pc Ls (.int j :: .ref a :: rest))) t := fun t kt => by
  obtain ⟨cl, A, r1, r2, r3, r4⟩ := F
  exact X.iaload hx (j := j) (v := f i) (by rw [eT]; exact A.1) (State.isArrayOf_alike hZ.alike A.2.1) A.2.2 (own_in q hi r2) (by rw [own_jn q]; exact r4 i hi) (g := mkF m pc Ls (.int j :: .ref a :: rest)) rfl rfl hd _ kt
theorem own_ldB (X : Stand p l e R s m args below meth c T locs cells slots) (hx : p.tables.exec = Jvm.exec) (hZ : Z.Warmed39 s.vm) (eT : T.heap = h) (F : own_A Z h a k .byte n f) {j : Int32} (i : Nat) (q : j.toInt = (i : Int)) (hi : i < n) {pc : Nat} {Ls : Array Slot} {rest : List Value} (hd : decode c.code pc = .ok (.baload, 1)) :
    ∀ t, Steps p.tables e below (T.setTop (mkF m (pc + 1) Ls (f i :: rest))) t → Steps p.tables e below (T.setTop (mkF m pc Ls (.int j :: .ref a :: rest))) t := fun t kt => by
  obtain ⟨cl, A, r1, r2, r3, r4⟩ := F
  exact X.baloadBytes hx (j := j) (v := f i) (by rw [eT]; exact A.1) (State.isArrayOf_alike hZ.alike A.2.1) A.2.2 (own_in q hi r2) (by rw [own_jn q]; exact r4 i hi) (g := mkF m pc Ls (.int j :: .ref a :: rest)) rfl rfl hd _ kt
theorem own_ldC (X : Stand p l e R s m args below meth c T locs cells slots) (hx : p.tables.exec = Jvm.exec) (hZ : Z.Warmed39 s.vm) (eT : T.heap = h) (F : own_A Z h a k .char n f) {j : Int32} (i : Nat) (q : j.toInt = (i : Int)) (hi : i < n) {pc : Nat} {Ls : Array Slot} {rest : List Value} (hd : decode c.code pc = .ok (.caload, 1)) :
    ∀ t, Steps p.tables e below (T.setTop (mkF m (pc + 1) Ls (f i :: rest))) t → Steps p.tables e below (T.setTop (mkF m pc Ls (.int j :: .ref a :: rest))) t := fun t kt => by
  obtain ⟨cl, A, r1, r2, r3, r4⟩ := F
  exact X.caload hx (j := j) (v := f i) (by rw [eT]; exact A.1) (State.isArrayOf_alike hZ.alike A.2.1) A.2.2 (own_in q hi r2) (by rw [own_jn q]; exact r4 i hi) (g := mkF m pc Ls (.int j :: .ref a :: rest)) rfl rfl hd _ kt
theorem own_ldR (X : Stand p l e R s m args below meth c T locs cells slots) (hx : p.tables.exec = Jvm.exec) (hZ : Z.Warmed39 s.vm) (eT : T.heap = h) (F : own_A Z h a k ty n f) (hty : ty.isReference = true) {j : Int32} (i : Nat) (q : j.toInt = (i : Int)) (hi : i < n) {pc : Nat} {Ls : Array Slot} {rest : List Value} (hd : decode c.code pc = .ok (.aaload, 1)) :
    ∀ t, Steps p.tables e below (T.setTop (mkF m (pc + 1) Ls (f i :: rest))) t → Steps p.tables e below (T.setTop (mkF m pc Ls (.int j :: .ref a :: rest))) t := fun t kt => by
  obtain ⟨cl, A, r1, r2, r3, r4⟩ := F
  exact X.aaload hx (j := j) (v := f i) (by rw [eT]; exact A.1) (State.isArrayOf_alike hZ.alike A.2.1) hty A.2.2 (own_in q hi r2) (by rw [own_jn q]; exact r4 i hi) (g := mkF m pc Ls (.int j :: .ref a :: rest)) rfl rfl hd _ kt
theorem own_len (X : Stand p l e R s m args below meth c T locs cells slots) (hx : p.tables.exec = Jvm.exec) (hZ : Z.Warmed39 s.vm) (eT : T.heap = h) (F : own_A Z h a k ty n f) {pc : Nat} {Ls : Array Slot} {rest : List Value} (hd : decode c.code pc = .ok (.arraylength, 1)) (z : Int32) (hz : z.toInt = (n : Int)) :
    ∀ t, Steps p.tables e below (T.setTop (mkF m (pc + 1) Ls (.int z :: rest))) t → Steps p.tables e below (T.setTop (mkF m pc Ls (.ref a :: rest))) t := fun t kt => by
  obtain ⟨cl, A, r1, r2, r3, r4⟩ := F
  have q : cl.slots.size.toInt32 = z := by
    apply Int32.toInt_inj.mp; rw [r2, hz]; exact len_toInt r3
  exact X.arraylength hx (by rw [eT]; exact A.1) (State.isArrayOf_alike hZ.alike A.2.1) (g := mkF m pc Ls (.ref a :: rest)) rfl rfl hd _ (by rw [q]; exact kt)
theorem own_cat {w : Value} (h : w.isRef = true) : w.category = 1 := by cases w <;> first | rfl | cases h
theorem own_nb (x : Int32) : nar .byte x.toInt8.toInt32 = x.toInt8.toInt32 := by simp [nar]
theorem own_nc (x : Int32) : nar .char x.toUInt32.toUInt16.toUInt32.toInt32 = x.toUInt32.toUInt16.toUInt32.toInt32 := by
  have := Jvm.Free.XT.narrow_c x
  simpa [nar, narrow] using this
theorem own_nz {z : Int32} (q : z = 0 ∨ z = 1) : nar .boolean z = z := by rcases q with rfl | rfl <;> rfl
theorem own_bt {P : Prop} [Decidable P] (q : P) : ¬ ((if P then (1 : Int32) else 0) = 0) := by simp [q]
theorem own_bf {P : Prop} [Decidable P] (q : ¬ P) : (if P then (1 : Int32) else 0) = 0 := by simp [q]
theorem own_nt {P : Prop} [Decidable P] (q : P) : (if P then (0 : Int32) else 1) = 0 := by simp [q]
theorem own_nf {P : Prop} [Decidable P] (q : ¬ P) : ¬ ((if P then (0 : Int32) else 1) = 0) := by simp [q]
theorem own_lrem {target : State} (X : Stand p l e R s m args below meth c T locs cells slots) (hx : p.tables.exec = Jvm.exec) (hg : g.method = m) {x y : Int64} {rest : List Value} (hd : decode c.code g.pc = .ok (.lrem, 1)) (hs : g.stack = .long y :: .long x :: rest) (hy : y ≠ 0)
    (hr : Steps p.tables e below (T.setTop { g with pc := g.pc + 1, stack := .long (x % y) :: rest }) target) : Steps p.tables e below (T.setTop g) target := XS.lrem X.here hx hg hd hs hy (by rw [lrem_mod]; exact hr)
end OwnKit
def own_m (a : Int32) : Int32 := (a &&& (2047 : Int32))
def own_mn (x : Int32) : Nat := (own_m x).toNatClampNeg
theorem own_m0 (x : Int32) : 0 ≤ (own_m x).toInt ∧ (own_m x).toInt ≤ 2047 := c_and x 2047 (by decide)
theorem own_m1 (x : Int32) : (own_m x).toInt = (own_mn x : Int) := by
  have := own_m0 x; unfold own_mn; simp only [Int32.toNatClampNeg]; omega
theorem own_m3 (x : Int32) : ¬ own_m x < 0 := by
  have := own_m0 x; rw [Int32.lt_iff_toInt_lt]; have : (0 : Int32).toInt = 0 := rfl; omega
theorem own_m4 (x : Int32) : (own_m x).toNatClampNeg ≤ 2047 := by
  have := own_m0 x; simp only [Int32.toNatClampNeg]; omega
theorem own_m5 {x : Int32} (h : own_m x < (1024 : Int32)) : own_mn x < 1024 := by
  have := own_m1 x; rw [Int32.lt_iff_toInt_lt] at h; have : (1024 : Int32).toInt = 1024 := rfl; omega
theorem own_m6 {x : Int32} (h : own_m x < (1024 : Int32)) : (own_m x).toNatClampNeg ≤ 1023 := by
  have := own_m5 h; unfold own_mn at this; omega
theorem own_m7 {x y : Int32} (h : own_m x = own_m y) : own_mn x = own_mn y := by unfold own_mn; rw [h]
theorem own_m8 {x y : Int32} (h : ¬ own_m x = own_m y) : own_mn x ≠ own_mn y := fun q => h (Int32.toInt_inj.mp (by rw [own_m1, own_m1, q]))
theorem own_m9 {x y : Int32} (h1 : own_m x < (1024 : Int32)) (h2 : ¬ own_m y < (1024 : Int32)) : ¬ own_m x = own_m y := fun q => h2 (q ▸ h1)
theorem own_m10 {x y : Int32} (h1 : ¬ own_m x < (1024 : Int32)) (h2 : own_m y < (1024 : Int32)) : ¬ own_m x = own_m y := fun q => h1 (q ▸ h2)

theorem dprog_26_method_1_code_0 : decode prog_26_method_1_code 0 = .ok (.aload_n 0, 1) := by decide +kernel
theorem dprog_26_method_1_code_1 : decode prog_26_method_1_code 1 = .ok (.invokespecial 1, 3) := by decide +kernel
theorem dprog_26_method_1_code_4 : decode prog_26_method_1_code 4 = .ok (.aload_n 0, 1) := by decide +kernel
theorem dprog_26_method_1_code_5 : decode prog_26_method_1_code 5 = .ok (.sipush 1024, 3) := by decide +kernel
theorem dprog_26_method_1_code_8 : decode prog_26_method_1_code 8 = .ok (.anewarray 9, 3) := by decide +kernel
theorem dprog_26_method_1_code_11 : decode prog_26_method_1_code 11 = .ok (.putfield 11, 3) := by decide +kernel
theorem dprog_26_method_1_code_14 : decode prog_26_method_1_code 14 = .ok (.return_, 1) := by decide +kernel
theorem ef_rm1 (m_ : MethodId) (a : Addr) : entryFrame m_ #[(.ref a)] 1 = mkF m_ 0 #[.val (.ref a)] [] := by first | (simp [entryFrame, mkF, argsToLocals, Value.category]; done) | rfl
theorem own_pn0 : plainName "com/example/wiry_producer/wiryproducer/command/ReusedArrays" = true := by first | (simp [plainName, overriddenIn]; done) | decide +kernel
set_option maxRecDepth 65536 in
set_option maxHeartbeats 40000000 in
theorem rm1 (l : Launch) (Z : State) (a0 : Array Value) (hw : ∀ d ∈ tables_1, d.before a0 Z = true) (a : Addr) (h0 : Heap) (n0 : Nat) (Z0 : n0 ≤ h0.size) (E_a : Exa Z h0 a "com/example/wiry_producer/wiryproducer/command/ReusedArrays") (F_byLength_a : Fld Z h0 a "com/example/wiry_producer/wiryproducer/command/ReusedArrays" "byLength" "[[B" .null) (g_a : n0 ≤ a) :
    own_Met l Z (⟨"com/example/wiry_producer/wiryproducer/command/ReusedArrays", "<init>", "()V"⟩ : MethodName) prog_26_method_1_code 1 none ({ frames := 1, cells := 1, slots := 1024, locals := 12 } : Room) #[(.ref a)] h0 (fun v h L => ∃ (t : Addr) (kt : ClassId), v = none ∧ Fr n0 L ∧ Keep h0 h [a] ∧ Exa Z h a "com/example/wiry_producer/wiryproducer/command/ReusedArrays" ∧ Fld Z h a "com/example/wiry_producer/wiryproducer/command/ReusedArrays" "byLength" "[[B" (.ref t) ∧ n0 ≤ t ∧ h0.size ≤ t ∧ own_A Z h t kt (.array .byte) 1024 (fun _ => .null) ∧ OvrA Z kt .byte "[B") := by
  refine own_body #[.val (.ref a)] (plainFor_of_name own_pn0) (fun m_ => ef_rm1 m_ a) ?_
  intro p_ e_ s_ m_ below meth c_ s₁ X0 hx hby hml hret hlk hZ hown hnm e0
  have N0 := Fr.nil n0
  have KP := Keep.refl h0 [a]
  show own_Out p_ e_ below s_ _ _ _ s₁ (mkF m_ 0 #[.val (.ref a)] [])
  refine own_st s₁ (mkF m_ 1 #[.val (.ref a)] [(.ref a)]) (fun t_ k_ => ?_) ?_
  · refine XS.aloadN X0.here hx rfl (hb hby dprog_26_method_1_code_0) rfl rfl ?_
    show Steps p_.tables e_ below (s₁.setTop (mkF m_ 1 #[.val (.ref a)] [(.ref a)])) t_
    exact k_
  obtain ⟨T1, X1, e1, st1⟩ := initO X0 hx hZ hown (hw _ (List.mem_of_getElem? (i := 6) rfl)) (hw _ (List.mem_of_getElem? (i := 7) rfl)) (hw _ (List.mem_of_getElem? (i := 8) rfl)) e0 (g := (mkF m_ 1 #[.val (.ref a)] [(.ref a)])) rfl (by rw [hml]; rfl) rfl (hb hby dprog_26_method_1_code_1) (by decide) (W := 0) (by show 2 * 0 + _ ≤ _; exact Nat.le_of_eq rfl) (by decide)
  refine own_st T1 (mkF m_ 4 #[.val (.ref a)] []) st1 ?_
  refine own_st T1 (mkF m_ 8 #[.val (.ref a)] [(.int (1024 : Int32)), (.ref a)]) (fun t_ k_ => ?_) ?_
  · refine XS.aloadN X1.here hx rfl (hb hby dprog_26_method_1_code_4) rfl rfl ?_
    show Steps p_.tables e_ below (T1.setTop (mkF m_ 5 #[.val (.ref a)] [(.ref a)])) t_
    refine XS.sipush X1.here hx rfl (hb hby dprog_26_method_1_code_5) ?_
    show Steps p_.tables e_ below (T1.setTop (mkF m_ 8 #[.val (.ref a)] [(.int (1024 : Int32)), (.ref a)])) t_
    exact k_
  obtain ⟨T2, h2, k2, X2, e2, E2, A2, -, O2, st2⟩ := newRA X1 hx hZ hown (C := "[B") (ty := .byte) (by decide) (hw _ (List.mem_of_getElem? (i := 9) rfl)) (hw _ (List.mem_of_getElem? (i := 10) rfl)) e1 (g := (mkF m_ 8 #[.val (.ref a)] [(.int (1024 : Int32)), (.ref a)])) rfl (hb hby dprog_26_method_1_code_8) rfl (by decide) (cap := 1024) (by decide) (by decide) (by decide) (by decide) (ad := "[[B") (by decide)
  obtain ⟨b2, g2⟩ : ∃ z, z = h0.size := ⟨_, rfl⟩
  rw [← g2] at A2 st2
  have g_b2 : n0 ≤ b2 := g2 ▸ Z0
  have sz_b2 : h0.size ≤ b2 := g2 ▸ KP.1
  have ne_a_b2 : a ≠ b2 := Nat.ne_of_lt (Nat.lt_of_lt_of_le E_a.lt (Nat.le_of_eq g2.symm))
  replace KP := KP.ext E2
  replace E_a := E_a.ext E2
  replace F_byLength_a := F_byLength_a.ext E2
  replace Z0 : n0 ≤ h2.size := Nat.le_trans Z0 E2.1
  have A_b2 : own_A Z h2 b2 k2 (.array .byte) 1024 (fun _ => .null) := own_A.new A2 (by decide)
  refine own_st T2 (mkF m_ 11 #[.val (.ref a)] [(.ref b2), (.ref a)]) st2 ?_
  obtain ⟨T3, h3, X3, e3, W3, st3⟩ := putF X2 hx hZ hown (host := "") (Or.inl (hw _ (List.mem_of_getElem? (i := 11) rfl))) Via.refl e2 F_byLength_a E_a (Or.inr ⟨(hw _ (List.mem_of_getElem? (i := 12) rfl)), rfl, hnm⟩) (hw _ (List.mem_of_getElem? (i := 1) rfl)) (ty := (.array (.array .byte))) (by decide) rfl rfl (g := (mkF m_ 11 #[.val (.ref a)] [(.ref b2), (.ref a)])) rfl rfl (hb hby dprog_26_method_1_code_11)
  have N3 := Fr.snoc X3 N0 g_a
  replace Z0 : n0 ≤ h3.size := W3.size ▸ Z0
  replace KP := KP.wr W3 (Or.inl (List.mem_of_getElem? (i := 0) rfl))
  replace E_a := E_a.wr W3
  replace A_b2 := A_b2.other W3 (Ne.symm ne_a_b2)
  replace F_byLength_a := F_byLength_a.same W3
  refine own_st T3 (mkF m_ 14 #[.val (.ref a)] []) st3 ?_
  refine own_ret0 X3 hx hlk hret (hb hby dprog_26_method_1_code_14) (by decide) (by decide) ?_
  rw [e3]
  exact ⟨b2, _, rfl, N3, KP, E_a, F_byLength_a, g_b2, sz_b2, A_b2, O2⟩
theorem dprog_26_method_2_code_0 : decode prog_26_method_2_code 0 = .ok (.iload_n 1, 1) := by decide +kernel
theorem dprog_26_method_2_code_1 : decode prog_26_method_2_code 1 = .ok (.sipush 1024, 3) := by decide +kernel
theorem dprog_26_method_2_code_4 : decode prog_26_method_2_code 4 = .ok (.if_icmp .lt 7, 3) := by decide +kernel
theorem dprog_26_method_2_code_7 : decode prog_26_method_2_code 7 = .ok (.iload_n 1, 1) := by decide +kernel
theorem dprog_26_method_2_code_8 : decode prog_26_method_2_code 8 = .ok (.newarray .byte, 2) := by decide +kernel
theorem dprog_26_method_2_code_10 : decode prog_26_method_2_code 10 = .ok (.areturn, 1) := by decide +kernel
theorem ef_rm3A (m_ : MethodId) (a : Addr) (z : Int32) : entryFrame m_ #[(.ref a), (.int z)] 3 = mkF m_ 0 #[.val (.ref a), .val (.int z), .unset] [] := by first | (simp [entryFrame, mkF, argsToLocals, Value.category]; done) | rfl
set_option maxRecDepth 65536 in
set_option maxHeartbeats 40000000 in
theorem rm3A (l : Launch) (Z : State) (a0 : Array Value) (hw : ∀ d ∈ tables_1, d.before a0 Z = true) (a : Addr) (z : Int32) (n : Nat) (h0 : Heap) (n0 : Nat) (Z0 : n0 ≤ h0.size) (hneg : ¬ z < 0) (hn : z.toNatClampNeg = n) (hz : z.toInt = (n : Int)) (hcap : z.toNatClampNeg ≤ 2047) (hge : ¬ z < (1024 : Int32)) :
    own_Met l Z (⟨"com/example/wiry_producer/wiryproducer/command/ReusedArrays", "of", "(I)[B"⟩ : MethodName) prog_26_method_2_code 3 (some (.array .byte)) ({ frames := 0, cells := 1, slots := 2047, locals := 0 } : Room) #[(.ref a), (.int z)] h0 (fun v h L => ∃ (b : Addr) (kb : ClassId), v = some (.ref b) ∧ n0 ≤ b ∧ h0.size ≤ b ∧ Fr n0 L ∧ Keep h0 h [] ∧ own_A Z h b kb .byte n (fun _ => .int 0)) := by
  refine own_body #[.val (.ref a), .val (.int z), .unset] (plainFor_of_name own_pn0) (fun m_ => ef_rm3A m_ a z) ?_
  intro p_ e_ s_ m_ below meth c_ s₁ X0 hx hby hml hret hlk hZ hown hnm e0
  have N0 := Fr.nil n0
  have KP := Keep.refl h0 []
  show own_Out p_ e_ below s_ _ _ _ s₁ (mkF m_ 0 #[.val (.ref a), .val (.int z), .unset] [])
  refine own_st s₁ (mkF m_ 8 #[.val (.ref a), .val (.int z), .unset] [(.int z)]) (fun t_ k_ => ?_) ?_
  · refine XS.iloadN X0.here hx rfl (hb hby dprog_26_method_2_code_0) rfl ?_
    show Steps p_.tables e_ below (s₁.setTop (mkF m_ 1 #[.val (.ref a), .val (.int z), .unset] [(.int z)])) t_
    refine XS.sipush X0.here hx rfl (hb hby dprog_26_method_2_code_1) ?_
    show Steps p_.tables e_ below (s₁.setTop (mkF m_ 4 #[.val (.ref a), .val (.int z), .unset] [(.int (1024 : Int32)), (.int z)])) t_
    refine XS.icmpNo X0.here hx rfl (hb hby dprog_26_method_2_code_4) rfl (flt (hge : ¬ (z < (1024 : Int32)))).1 ?_
    show Steps p_.tables e_ below (s₁.setTop (mkF m_ 7 #[.val (.ref a), .val (.int z), .unset] [])) t_
    refine XS.iloadN X0.here hx rfl (hb hby dprog_26_method_2_code_7) rfl ?_
    show Steps p_.tables e_ below (s₁.setTop (mkF m_ 8 #[.val (.ref a), .val (.int z), .unset] [(.int z)])) t_
    exact k_
  obtain ⟨T1, h1, k1, X1, e1, E1, A1, st1⟩ := newP X0 hx hZ (hw _ (List.mem_of_getElem? (i := 18) rfl)) e0 (g := (mkF m_ 8 #[.val (.ref a), .val (.int z), .unset] [(.int z)])) rfl (hb hby dprog_26_method_2_code_8) rfl hneg (cap := 2047) hcap (by decide) (by decide) (by decide)
  obtain ⟨b1, g1⟩ : ∃ z, z = h0.size := ⟨_, rfl⟩
  rw [← g1] at A1 st1
  have g_b1 : n0 ≤ b1 := g1 ▸ Z0
  have sz_b1 : h0.size ≤ b1 := g1 ▸ KP.1
  replace KP := KP.ext E1
  replace Z0 : n0 ≤ h1.size := Nat.le_trans Z0 E1.1
  have A_b1 : own_A Z h1 b1 k1 .byte n (fun _ => .int 0) := own_A.newI A1 hneg n hn rfl
  refine own_st T1 (mkF m_ 10 #[.val (.ref a), .val (.int z), .unset] [(.ref b1)]) st1 ?_
  refine own_retA X1 hx hlk hret rfl rfl (hb hby dprog_26_method_2_code_10) (by decide) (by decide) ?_
  rw [e1]
  exact ⟨b1, _, rfl, g_b1, sz_b1, N0, KP, A_b1⟩
theorem dprog_26_method_2_code_11 : decode prog_26_method_2_code 11 = .ok (.aload_n 0, 1) := by decide +kernel
theorem dprog_26_method_2_code_12 : decode prog_26_method_2_code 12 = .ok (.getfield 11, 3) := by decide +kernel
theorem dprog_26_method_2_code_15 : decode prog_26_method_2_code 15 = .ok (.iload_n 1, 1) := by decide +kernel
theorem dprog_26_method_2_code_16 : decode prog_26_method_2_code 16 = .ok (.aaload, 1) := by decide +kernel
theorem dprog_26_method_2_code_17 : decode prog_26_method_2_code 17 = .ok (.astore_n 2, 1) := by decide +kernel
theorem dprog_26_method_2_code_18 : decode prog_26_method_2_code 18 = .ok (.aload_n 2, 1) := by decide +kernel
theorem dprog_26_method_2_code_19 : decode prog_26_method_2_code 19 = .ok (.ifnonnull 14, 3) := by decide +kernel
theorem dprog_26_method_2_code_22 : decode prog_26_method_2_code 22 = .ok (.iload_n 1, 1) := by decide +kernel
theorem dprog_26_method_2_code_23 : decode prog_26_method_2_code 23 = .ok (.newarray .byte, 2) := by decide +kernel
theorem dprog_26_method_2_code_25 : decode prog_26_method_2_code 25 = .ok (.astore_n 2, 1) := by decide +kernel
theorem dprog_26_method_2_code_26 : decode prog_26_method_2_code 26 = .ok (.aload_n 0, 1) := by decide +kernel
theorem dprog_26_method_2_code_27 : decode prog_26_method_2_code 27 = .ok (.getfield 11, 3) := by decide +kernel
theorem dprog_26_method_2_code_30 : decode prog_26_method_2_code 30 = .ok (.iload_n 1, 1) := by decide +kernel
theorem dprog_26_method_2_code_31 : decode prog_26_method_2_code 31 = .ok (.aload_n 2, 1) := by decide +kernel
theorem dprog_26_method_2_code_32 : decode prog_26_method_2_code 32 = .ok (.aastore, 1) := by decide +kernel
theorem dprog_26_method_2_code_33 : decode prog_26_method_2_code 33 = .ok (.aload_n 2, 1) := by decide +kernel
theorem dprog_26_method_2_code_34 : decode prog_26_method_2_code 34 = .ok (.areturn, 1) := by decide +kernel
theorem ef_rm3B (m_ : MethodId) (a : Addr) (z : Int32) : entryFrame m_ #[(.ref a), (.int z)] 3 = mkF m_ 0 #[.val (.ref a), .val (.int z), .unset] [] := by first | (simp [entryFrame, mkF, argsToLocals, Value.category]; done) | rfl
set_option maxRecDepth 65536 in
set_option maxHeartbeats 40000000 in
theorem rm3B (l : Launch) (Z : State) (a0 : Array Value) (hw : ∀ d ∈ tables_1, d.before a0 Z = true) (a : Addr) (z : Int32) (n : Nat) (t : Addr) (kt : ClassId) (f : Nat → Value) (h0 : Heap) (n0 : Nat) (Z0 : n0 ≤ h0.size) (hneg : ¬ z < 0) (hn : z.toNatClampNeg = n) (hz : z.toInt = (n : Int)) (F_byLength_a : Fld Z h0 a "com/example/wiry_producer/wiryproducer/command/ReusedArrays" "byLength" "[[B" (.ref t)) (A_t : own_A Z h0 t kt (.array .byte) 1024 f) (Ot : OvrA Z kt .byte "[B") (hlt : n < 1024) (hl : z < (1024 : Int32)) (hcap : z.toNatClampNeg ≤ 1023) (hf : f n = .null) (g_t : n0 ≤ t) (ne_a_t : a ≠ t) :
    own_Met l Z (⟨"com/example/wiry_producer/wiryproducer/command/ReusedArrays", "of", "(I)[B"⟩ : MethodName) prog_26_method_2_code 3 (some (.array .byte)) ({ frames := 0, cells := 1, slots := 1023, locals := 0 } : Room) #[(.ref a), (.int z)] h0 (fun v h L => ∃ (b : Addr) (kb : ClassId), v = some (.ref b) ∧ n0 ≤ b ∧ h0.size ≤ b ∧ Fr n0 L ∧ Keep h0 h [t] ∧ own_A Z h b kb .byte n (fun _ => .int 0) ∧ own_A Z h t kt (.array .byte) 1024 (fun x => if x = n then .ref b else f x)) := by
  refine own_body #[.val (.ref a), .val (.int z), .unset] (plainFor_of_name own_pn0) (fun m_ => ef_rm3B m_ a z) ?_
  intro p_ e_ s_ m_ below meth c_ s₁ X0 hx hby hml hret hlk hZ hown hnm e0
  have N0 := Fr.nil n0
  have KP := Keep.refl h0 [t]
  show own_Out p_ e_ below s_ _ _ _ s₁ (mkF m_ 0 #[.val (.ref a), .val (.int z), .unset] [])
  refine own_st s₁ (mkF m_ 12 #[.val (.ref a), .val (.int z), .unset] [(.ref a)]) (fun t_ k_ => ?_) ?_
  · refine XS.iloadN X0.here hx rfl (hb hby dprog_26_method_2_code_0) rfl ?_
    show Steps p_.tables e_ below (s₁.setTop (mkF m_ 1 #[.val (.ref a), .val (.int z), .unset] [(.int z)])) t_
    refine XS.sipush X0.here hx rfl (hb hby dprog_26_method_2_code_1) ?_
    show Steps p_.tables e_ below (s₁.setTop (mkF m_ 4 #[.val (.ref a), .val (.int z), .unset] [(.int (1024 : Int32)), (.int z)])) t_
    refine XS.icmpYes X0.here hx rfl (pc0 := 4) (pc' := 11) rfl (hb hby dprog_26_method_2_code_4) rfl (tlt (hl : z < (1024 : Int32))).1 (by decide) (by decide) ?_
    show Steps p_.tables e_ below (s₁.setTop (mkF m_ 11 #[.val (.ref a), .val (.int z), .unset] [])) t_
    refine XS.aloadN X0.here hx rfl (hb hby dprog_26_method_2_code_11) rfl rfl ?_
    show Steps p_.tables e_ below (s₁.setTop (mkF m_ 12 #[.val (.ref a), .val (.int z), .unset] [(.ref a)])) t_
    exact k_
  obtain ⟨T1, X1, e1, st1⟩ := getF X0 hx hZ hown (host := "") (Or.inl (hw _ (List.mem_of_getElem? (i := 11) rfl))) Via.refl e0 F_byLength_a (g := (mkF m_ 12 #[.val (.ref a), .val (.int z), .unset] [(.ref a)])) rfl rfl (hb hby dprog_26_method_2_code_12)
  refine own_st T1 (mkF m_ 15 #[.val (.ref a), .val (.int z), .unset] [(.ref t)]) st1 ?_
  refine own_st T1 (mkF m_ 23 #[.val (.ref a), .val (.int z), .val .null] [(.int z)]) (fun t_ k_ => ?_) ?_
  · refine XS.iloadN X1.here hx rfl (hb hby dprog_26_method_2_code_15) rfl ?_
    show Steps p_.tables e_ below (T1.setTop (mkF m_ 16 #[.val (.ref a), .val (.int z), .unset] [(.int z), (.ref t)])) t_
    refine own_ldR X1 hx hZ e1 A_t rfl n hz hlt (hb hby dprog_26_method_2_code_16) _ ?_
    rw [hf]
    show Steps p_.tables e_ below (T1.setTop (mkF m_ 17 #[.val (.ref a), .val (.int z), .unset] [.null])) t_
    refine XS.astoreN X1.here hx rfl (hb hby dprog_26_method_2_code_17) rfl rfl (l' := #[.val (.ref a), .val (.int z), .val .null]) rfl ?_
    show Steps p_.tables e_ below (T1.setTop (mkF m_ 18 #[.val (.ref a), .val (.int z), .val .null] [])) t_
    refine XS.aloadN X1.here hx rfl (hb hby dprog_26_method_2_code_18) rfl rfl ?_
    show Steps p_.tables e_ below (T1.setTop (mkF m_ 19 #[.val (.ref a), .val (.int z), .val .null] [.null])) t_
    refine XS.ifnonnullNo X1.here hx rfl (hb hby dprog_26_method_2_code_19) rfl ?_
    show Steps p_.tables e_ below (T1.setTop (mkF m_ 22 #[.val (.ref a), .val (.int z), .val .null] [])) t_
    refine XS.iloadN X1.here hx rfl (hb hby dprog_26_method_2_code_22) rfl ?_
    show Steps p_.tables e_ below (T1.setTop (mkF m_ 23 #[.val (.ref a), .val (.int z), .val .null] [(.int z)])) t_
    exact k_
  obtain ⟨T2, h2, k2, X2, e2, E2, A2, E_b2, st2⟩ := newPE X1 hx hZ (hw _ (List.mem_of_getElem? (i := 18) rfl)) e1 (g := (mkF m_ 23 #[.val (.ref a), .val (.int z), .val .null] [(.int z)])) rfl (hb hby dprog_26_method_2_code_23) rfl hneg (cap := 1023) hcap (by decide) (by decide) (by decide) (ad := "[B") (by decide)
  obtain ⟨b2, g2⟩ : ∃ z, z = h0.size := ⟨_, rfl⟩
  rw [← g2] at A2 E_b2 st2
  have g_b2 : n0 ≤ b2 := g2 ▸ Z0
  have sz_b2 : h0.size ≤ b2 := g2 ▸ KP.1
  have ne_a_b2 : a ≠ b2 := Nat.ne_of_lt (Nat.lt_of_lt_of_le F_byLength_a.lt (Nat.le_of_eq g2.symm))
  have ne_t_b2 : t ≠ b2 := Nat.ne_of_lt (Nat.lt_of_lt_of_le A_t.lt (Nat.le_of_eq g2.symm))
  replace KP := KP.ext E2
  replace F_byLength_a := F_byLength_a.ext E2
  replace A_t := A_t.ext E2
  replace Z0 : n0 ≤ h2.size := Nat.le_trans Z0 E2.1
  have A_b2 : own_A Z h2 b2 k2 .byte n (fun _ => .int 0) := own_A.newI A2 hneg n hn rfl
  refine own_st T2 (mkF m_ 25 #[.val (.ref a), .val (.int z), .val .null] [(.ref b2)]) st2 ?_
  refine own_st T2 (mkF m_ 27 #[.val (.ref a), .val (.int z), .val (.ref b2)] [(.ref a)]) (fun t_ k_ => ?_) ?_
  · refine XS.astoreN X2.here hx rfl (hb hby dprog_26_method_2_code_25) rfl rfl (l' := #[.val (.ref a), .val (.int z), .val (.ref b2)]) rfl ?_
    show Steps p_.tables e_ below (T2.setTop (mkF m_ 26 #[.val (.ref a), .val (.int z), .val (.ref b2)] [])) t_
    refine XS.aloadN X2.here hx rfl (hb hby dprog_26_method_2_code_26) rfl rfl ?_
    show Steps p_.tables e_ below (T2.setTop (mkF m_ 27 #[.val (.ref a), .val (.int z), .val (.ref b2)] [(.ref a)])) t_
    exact k_
  obtain ⟨T3, X3, e3, st3⟩ := getF X2 hx hZ hown (host := "") (Or.inl (hw _ (List.mem_of_getElem? (i := 11) rfl))) Via.refl e2 F_byLength_a (g := (mkF m_ 27 #[.val (.ref a), .val (.int z), .val (.ref b2)] [(.ref a)])) rfl rfl (hb hby dprog_26_method_2_code_27)
  refine own_st T3 (mkF m_ 30 #[.val (.ref a), .val (.int z), .val (.ref b2)] [(.ref t)]) st3 ?_
  refine own_st T3 (mkF m_ 32 #[.val (.ref a), .val (.int z), .val (.ref b2)] [(.ref b2), (.int z), (.ref t)]) (fun t_ k_ => ?_) ?_
  · refine XS.iloadN X3.here hx rfl (hb hby dprog_26_method_2_code_30) rfl ?_
    show Steps p_.tables e_ below (T3.setTop (mkF m_ 31 #[.val (.ref a), .val (.int z), .val (.ref b2)] [(.int z), (.ref t)])) t_
    refine XS.aloadN X3.here hx rfl (hb hby dprog_26_method_2_code_31) rfl rfl ?_
    show Steps p_.tables e_ below (T3.setTop (mkF m_ 32 #[.val (.ref a), .val (.int z), .val (.ref b2)] [(.ref b2), (.int z), (.ref t)])) t_
    exact k_
  obtain ⟨T4, h4, X4, e4, W4, st4⟩ := own_stRA X3 hx hZ e3 A_t Ot (Or.inr ⟨_, rfl, Ins.self E_b2⟩) n hz hlt (j := z) (v := (.ref b2)) (Ls := #[.val (.ref a), .val (.int z), .val (.ref b2)]) (rest := []) (hb hby dprog_26_method_2_code_32)
  have N4 := Fr.snoc X4 N0 g_t
  replace Z0 : n0 ≤ h4.size := W4.size ▸ Z0
  replace KP := KP.wr W4 (Or.inl (List.mem_of_getElem? (i := 0) rfl))
  replace F_byLength_a := F_byLength_a.other W4 (Or.inl ne_a_t)
  replace A_b2 := A_b2.other W4 (Ne.symm ne_t_b2)
  replace E_b2 := E_b2.wr W4
  replace A_t : own_A Z h4 t kt (.array .byte) 1024 (fun x_ => (if x_ = n then (Value.ref b2) else f x_)) := A_t.set hlt W4
  refine own_st T4 (mkF m_ 33 #[.val (.ref a), .val (.int z), .val (.ref b2)] []) st4 ?_
  refine own_st T4 (mkF m_ 34 #[.val (.ref a), .val (.int z), .val (.ref b2)] [(.ref b2)]) (fun t_ k_ => ?_) ?_
  · refine XS.aloadN X4.here hx rfl (hb hby dprog_26_method_2_code_33) rfl rfl ?_
    show Steps p_.tables e_ below (T4.setTop (mkF m_ 34 #[.val (.ref a), .val (.int z), .val (.ref b2)] [(.ref b2)])) t_
    exact k_
  refine own_retA X4 hx hlk hret rfl rfl (hb hby dprog_26_method_2_code_34) (by decide) (by decide) ?_
  rw [e4]
  exact ⟨b2, _, rfl, g_b2, sz_b2, N4, KP, A_b2, A_t⟩
theorem ef_rm3C (m_ : MethodId) (a : Addr) (z : Int32) : entryFrame m_ #[(.ref a), (.int z)] 3 = mkF m_ 0 #[.val (.ref a), .val (.int z), .unset] [] := by first | (simp [entryFrame, mkF, argsToLocals, Value.category]; done) | rfl
set_option maxRecDepth 65536 in
set_option maxHeartbeats 40000000 in
theorem rm3C (l : Launch) (Z : State) (a0 : Array Value) (hw : ∀ d ∈ tables_1, d.before a0 Z = true) (a : Addr) (z : Int32) (n : Nat) (t : Addr) (kt : ClassId) (f : Nat → Value) (y : Addr) (h0 : Heap) (n0 : Nat) (Z0 : n0 ≤ h0.size) (hz : z.toInt = (n : Int)) (F_byLength_a : Fld Z h0 a "com/example/wiry_producer/wiryproducer/command/ReusedArrays" "byLength" "[[B" (.ref t)) (A_t : own_A Z h0 t kt (.array .byte) 1024 f) (hlt : n < 1024) (hl : z < (1024 : Int32)) (hf : f n = .ref y) :
    own_Met l Z (⟨"com/example/wiry_producer/wiryproducer/command/ReusedArrays", "of", "(I)[B"⟩ : MethodName) prog_26_method_2_code 3 (some (.array .byte)) ({ frames := 0, cells := 0, slots := 0, locals := 0 } : Room) #[(.ref a), (.int z)] h0 (fun v h L => v = some (.ref y) ∧ Fr n0 L ∧ h = h0) := by
  refine own_body #[.val (.ref a), .val (.int z), .unset] (plainFor_of_name own_pn0) (fun m_ => ef_rm3C m_ a z) ?_
  intro p_ e_ s_ m_ below meth c_ s₁ X0 hx hby hml hret hlk hZ hown hnm e0
  have N0 := Fr.nil n0
  show own_Out p_ e_ below s_ _ _ _ s₁ (mkF m_ 0 #[.val (.ref a), .val (.int z), .unset] [])
  refine own_st s₁ (mkF m_ 12 #[.val (.ref a), .val (.int z), .unset] [(.ref a)]) (fun t_ k_ => ?_) ?_
  · refine XS.iloadN X0.here hx rfl (hb hby dprog_26_method_2_code_0) rfl ?_
    show Steps p_.tables e_ below (s₁.setTop (mkF m_ 1 #[.val (.ref a), .val (.int z), .unset] [(.int z)])) t_
    refine XS.sipush X0.here hx rfl (hb hby dprog_26_method_2_code_1) ?_
    show Steps p_.tables e_ below (s₁.setTop (mkF m_ 4 #[.val (.ref a), .val (.int z), .unset] [(.int (1024 : Int32)), (.int z)])) t_
    refine XS.icmpYes X0.here hx rfl (pc0 := 4) (pc' := 11) rfl (hb hby dprog_26_method_2_code_4) rfl (tlt (hl : z < (1024 : Int32))).1 (by decide) (by decide) ?_
    show Steps p_.tables e_ below (s₁.setTop (mkF m_ 11 #[.val (.ref a), .val (.int z), .unset] [])) t_
    refine XS.aloadN X0.here hx rfl (hb hby dprog_26_method_2_code_11) rfl rfl ?_
    show Steps p_.tables e_ below (s₁.setTop (mkF m_ 12 #[.val (.ref a), .val (.int z), .unset] [(.ref a)])) t_
    exact k_
  obtain ⟨T1, X1, e1, st1⟩ := getF X0 hx hZ hown (host := "") (Or.inl (hw _ (List.mem_of_getElem? (i := 11) rfl))) Via.refl e0 F_byLength_a (g := (mkF m_ 12 #[.val (.ref a), .val (.int z), .unset] [(.ref a)])) rfl rfl (hb hby dprog_26_method_2_code_12)
  refine own_st T1 (mkF m_ 15 #[.val (.ref a), .val (.int z), .unset] [(.ref t)]) st1 ?_
  refine own_st T1 (mkF m_ 34 #[.val (.ref a), .val (.int z), .val (.ref y)] [(.ref y)]) (fun t_ k_ => ?_) ?_
  · refine XS.iloadN X1.here hx rfl (hb hby dprog_26_method_2_code_15) rfl ?_
    show Steps p_.tables e_ below (T1.setTop (mkF m_ 16 #[.val (.ref a), .val (.int z), .unset] [(.int z), (.ref t)])) t_
    refine own_ldR X1 hx hZ e1 A_t rfl n hz hlt (hb hby dprog_26_method_2_code_16) _ ?_
    rw [hf]
    show Steps p_.tables e_ below (T1.setTop (mkF m_ 17 #[.val (.ref a), .val (.int z), .unset] [(.ref y)])) t_
    refine XS.astoreN X1.here hx rfl (hb hby dprog_26_method_2_code_17) rfl rfl (l' := #[.val (.ref a), .val (.int z), .val (.ref y)]) rfl ?_
    show Steps p_.tables e_ below (T1.setTop (mkF m_ 18 #[.val (.ref a), .val (.int z), .val (.ref y)] [])) t_
    refine XS.aloadN X1.here hx rfl (hb hby dprog_26_method_2_code_18) rfl rfl ?_
    show Steps p_.tables e_ below (T1.setTop (mkF m_ 19 #[.val (.ref a), .val (.int z), .val (.ref y)] [(.ref y)])) t_
    refine XS.ifnonnullYes X1.here hx rfl (pc0 := 19) (pc' := 33) rfl (hb hby dprog_26_method_2_code_19) rfl (by decide) (by decide) ?_
    show Steps p_.tables e_ below (T1.setTop (mkF m_ 33 #[.val (.ref a), .val (.int z), .val (.ref y)] [])) t_
    refine XS.aloadN X1.here hx rfl (hb hby dprog_26_method_2_code_33) rfl rfl ?_
    show Steps p_.tables e_ below (T1.setTop (mkF m_ 34 #[.val (.ref a), .val (.int z), .val (.ref y)] [(.ref y)])) t_
    exact k_
  refine own_retA X1 hx hlk hret rfl rfl (hb hby dprog_26_method_2_code_34) (by decide) (by decide) ?_
  rw [e1]
  exact ⟨rfl, N0, rfl⟩
theorem own_pd0 : parseMethodDescriptor "()V" = some ⟨[], none⟩ := by decide +kernel
theorem own_pd1 : parseMethodDescriptor "(I)[B" = some ⟨[.int], some (.array .byte)⟩ := by decide +kernel
theorem ef_rm0 (m_ : MethodId) (a : Int32) (b : Int32) : entryFrame m_ #[(.int a), (.int b)] maxLocals = mkF m_ 0 #[.val (.int a), .val (.int b), .unset, .unset, .unset, .unset, .unset, .unset, .unset, .unset, .unset] [] := by first | (simp [entryFrame, mkF, argsToLocals, Value.category, maxLocals]; done) | rfl
theorem own_pn1 : plainName "com/example/wiry_producer/wiryproducer/command/ReusedArraysOfPinLaw" = true := by first | (simp [plainName, overriddenIn]; done) | decide +kernel
set_option maxRecDepth 65536 in
set_option maxHeartbeats 40000000 in
theorem rm0 (l : Launch) (Z : State) (a0 : Array Value) (hw : ∀ d ∈ tables_1, d.before a0 Z = true) (a : Int32) (b : Int32) (h0 : Heap) (n0 : Nat) (Z0 : n0 ≤ h0.size)  :
    own_Met l Z x code maxLocals ret room_1 #[(.int a), (.int b)] h0 (fun v h L => v = some (.int 1) ∧ Fr n0 L) := by
  refine own_body #[.val (.int a), .val (.int b), .unset, .unset, .unset, .unset, .unset, .unset, .unset, .unset, .unset] (plainFor_of_name own_pn1) (fun m_ => ef_rm0 m_ a b) ?_
  intro p_ e_ s_ m_ below meth c_ s₁ X0 hx hby hml hret hlk hZ hown hnm e0
  have N0 := Fr.nil n0
  show own_Out p_ e_ below s_ _ _ _ s₁ (mkF m_ 0 #[.val (.int a), .val (.int b), .unset, .unset, .unset, .unset, .unset, .unset, .unset, .unset, .unset] [])
  refine own_st s₁ (mkF m_ 12 #[.val (.int a), .val (.int b), .val (.int (own_m a)), .val (.int (own_m b)), .unset, .unset, .unset, .unset, .unset, .unset, .unset] []) (fun t_ k_ => ?_) ?_
  · refine XS.iloadN X0.here hx rfl (hb hby at_0) rfl ?_
    show Steps p_.tables e_ below (s₁.setTop (mkF m_ 1 #[.val (.int a), .val (.int b), .unset, .unset, .unset, .unset, .unset, .unset, .unset, .unset, .unset] [(.int a)])) t_
    refine XS.sipush X0.here hx rfl (hb hby at_1) ?_
    show Steps p_.tables e_ below (s₁.setTop (mkF m_ 4 #[.val (.int a), .val (.int b), .unset, .unset, .unset, .unset, .unset, .unset, .unset, .unset, .unset] [(.int (2047 : Int32)), (.int a)])) t_
    refine XS.iand X0.here hx rfl (hb hby at_4) rfl ?_
    show Steps p_.tables e_ below (s₁.setTop (mkF m_ 5 #[.val (.int a), .val (.int b), .unset, .unset, .unset, .unset, .unset, .unset, .unset, .unset, .unset] [(.int (own_m a))])) t_
    refine XS.istoreN X0.here hx rfl (hb hby at_5) rfl (l' := #[.val (.int a), .val (.int b), .val (.int (own_m a)), .unset, .unset, .unset, .unset, .unset, .unset, .unset, .unset]) rfl ?_
    show Steps p_.tables e_ below (s₁.setTop (mkF m_ 6 #[.val (.int a), .val (.int b), .val (.int (own_m a)), .unset, .unset, .unset, .unset, .unset, .unset, .unset, .unset] [])) t_
    refine XS.iloadN X0.here hx rfl (hb hby at_6) rfl ?_
    show Steps p_.tables e_ below (s₁.setTop (mkF m_ 7 #[.val (.int a), .val (.int b), .val (.int (own_m a)), .unset, .unset, .unset, .unset, .unset, .unset, .unset, .unset] [(.int b)])) t_
    refine XS.sipush X0.here hx rfl (hb hby at_7) ?_
    show Steps p_.tables e_ below (s₁.setTop (mkF m_ 10 #[.val (.int a), .val (.int b), .val (.int (own_m a)), .unset, .unset, .unset, .unset, .unset, .unset, .unset, .unset] [(.int (2047 : Int32)), (.int b)])) t_
    refine XS.iand X0.here hx rfl (hb hby at_10) rfl ?_
    show Steps p_.tables e_ below (s₁.setTop (mkF m_ 11 #[.val (.int a), .val (.int b), .val (.int (own_m a)), .unset, .unset, .unset, .unset, .unset, .unset, .unset, .unset] [(.int (own_m b))])) t_
    refine XS.istoreN X0.here hx rfl (hb hby at_11) rfl (l' := #[.val (.int a), .val (.int b), .val (.int (own_m a)), .val (.int (own_m b)), .unset, .unset, .unset, .unset, .unset, .unset, .unset]) rfl ?_
    show Steps p_.tables e_ below (s₁.setTop (mkF m_ 12 #[.val (.int a), .val (.int b), .val (.int (own_m a)), .val (.int (own_m b)), .unset, .unset, .unset, .unset, .unset, .unset, .unset] [])) t_
    exact k_
  obtain ⟨T1, h1, X1, e1, E1, A1, D1, -, st1⟩ := newO X0 hx hZ hown (hw _ (List.mem_of_getElem? (i := 0) rfl)) (hw _ (List.mem_of_getElem? (i := 1) rfl)) (hw _ (List.mem_of_getElem? (i := 2) rfl)) e0 (g := (mkF m_ 12 #[.val (.int a), .val (.int b), .val (.int (own_m a)), .val (.int (own_m b)), .unset, .unset, .unset, .unset, .unset, .unset, .unset] [])) rfl (hb hby at_12) (by decide) (by decide)
  obtain ⟨b1, g1⟩ : ∃ z, z = h0.size := ⟨_, rfl⟩
  rw [← g1] at A1 D1 st1
  have g_b1 : n0 ≤ b1 := g1 ▸ Z0
  replace Z0 : n0 ≤ h1.size := Nat.le_trans Z0 E1.1
  have F_byLength_b1 : Fld Z h1 b1 "com/example/wiry_producer/wiryproducer/command/ReusedArrays" "byLength" "[[B" .null := D1 (Or.inr (hw _ (List.mem_of_getElem? (i := 12) rfl))) (ty := (.array (.array .byte))) (by decide)
  have E_b1 := A1
  refine own_st T1 (mkF m_ 15 #[.val (.int a), .val (.int b), .val (.int (own_m a)), .val (.int (own_m b)), .unset, .unset, .unset, .unset, .unset, .unset, .unset] [(.ref b1)]) st1 ?_
  refine own_st T1 (mkF m_ 16 #[.val (.int a), .val (.int b), .val (.int (own_m a)), .val (.int (own_m b)), .unset, .unset, .unset, .unset, .unset, .unset, .unset] [(.ref b1), (.ref b1)]) (fun t_ k_ => ?_) ?_
  · refine XS.dup X1.here hx rfl (hb hby at_15) rfl rfl ?_
    show Steps p_.tables e_ below (T1.setTop (mkF m_ 16 #[.val (.int a), .val (.int b), .val (.int (own_m a)), .val (.int (own_m b)), .unset, .unset, .unset, .unset, .unset, .unset, .unset] [(.ref b1), (.ref b1)])) t_
    exact k_
  refine own_callC X1 hx hZ rfl hown (hw _ (List.mem_of_getElem? (i := 3) rfl)) (hw _ (List.mem_of_getElem? (i := 4) rfl)) (hw _ (List.mem_of_getElem? (i := 2) rfl)) (hw _ (List.mem_of_getElem? (i := 5) rfl)) (by decide) b1 [] [(.ref b1)] (rm1 l Z a0 hw b1 h1 n0 Z0 E_b1 F_byLength_b1 g_b1) 1 (by decide) (by decide) e1 (by rw [hml]; rfl) (lenOf own_pd0 rfl) rfl (Nat.le_of_eq rfl) (hb hby at_16) (by decide) (by decide) ?_
  intro v2 T2 L2 X2 q2
  obtain ⟨tt, kt, rfl, N2q, K2, Eq2, Fq2, g_tt, sz_tt, A_tt, Ott⟩ := q2
  have N2 := Fr.app N0 N2q
  have ne_b1_tt : b1 ≠ tt := Nat.ne_of_lt (Nat.lt_of_lt_of_le E_b1.lt sz_tt)
  -- F_byLength_b1 is dropped: written by the callee
  replace E_b1 := E_b1.keep K2
  replace Z0 : n0 ≤ T2.heap.size := Nat.le_trans Z0 K2.1
  have F_byLength_b1 := Fq2
  show own_Out p_ e_ below s_ _ _ _ T2 (mkF m_ 19 #[.val (.int a), .val (.int b), .val (.int (own_m a)), .val (.int (own_m b)), .unset, .unset, .unset, .unset, .unset, .unset, .unset] [(.ref b1)])
  refine own_st T2 (mkF m_ 24 #[.val (.int a), .val (.int b), .val (.int (own_m a)), .val (.int (own_m b)), .val (.ref b1), .unset, .unset, .unset, .unset, .unset, .unset] [(.int (own_m a)), (.ref b1)]) (fun t_ k_ => ?_) ?_
  · refine XS.astore X2.here hx rfl (hb hby at_19) rfl rfl (l' := #[.val (.int a), .val (.int b), .val (.int (own_m a)), .val (.int (own_m b)), .val (.ref b1), .unset, .unset, .unset, .unset, .unset, .unset]) rfl ?_
    show Steps p_.tables e_ below (T2.setTop (mkF m_ 21 #[.val (.int a), .val (.int b), .val (.int (own_m a)), .val (.int (own_m b)), .val (.ref b1), .unset, .unset, .unset, .unset, .unset, .unset] [])) t_
    refine XS.aload X2.here hx rfl (hb hby at_21) rfl rfl ?_
    show Steps p_.tables e_ below (T2.setTop (mkF m_ 23 #[.val (.int a), .val (.int b), .val (.int (own_m a)), .val (.int (own_m b)), .val (.ref b1), .unset, .unset, .unset, .unset, .unset, .unset] [(.ref b1)])) t_
    refine XS.iloadN X2.here hx rfl (hb hby at_23) rfl ?_
    show Steps p_.tables e_ below (T2.setTop (mkF m_ 24 #[.val (.int a), .val (.int b), .val (.int (own_m a)), .val (.int (own_m b)), .val (.ref b1), .unset, .unset, .unset, .unset, .unset, .unset] [(.int (own_m a)), (.ref b1)])) t_
    exact k_
  by_cases h1 : own_m a < (1024 : Int32)
  · refine own_callV X2 hx hZ (y := (⟨"com/example/wiry_producer/wiryproducer/command/ReusedArrays", "of", "(I)[B"⟩ : MethodName)) (z := (⟨"com/example/wiry_producer/wiryproducer/command/ReusedArrays", "of", "(I)[B"⟩ : MethodName)) hown (hw _ (List.mem_of_getElem? (i := 13) rfl)) (hw _ (List.mem_of_getElem? (i := 14) rfl)) (notFace_of_selects (args := #[]) (mvT hZ (hw _ (List.mem_of_getElem? (i := 16) rfl)))) (hw _ (List.mem_of_getElem? (i := 16) rfl)) (hw _ (List.mem_of_getElem? (i := 15) rfl)) (hw _ (List.mem_of_getElem? (i := 2) rfl)) (hw _ (List.mem_of_getElem? (i := 17) rfl)) (by decide) b1 [(.int (own_m a))] [] E_b1 (rm3B l Z a0 hw b1 (own_m a) (own_mn a) tt kt (fun x => .null) T2.heap n0 Z0 (own_m3 a) rfl (own_m1 a) F_byLength_b1 A_tt Ott (own_m5 h1) h1 (own_m6 h1) rfl g_tt ne_b1_tt) 0 (by decide) (by decide) rfl (by rw [hml]; rfl) (lenOf own_pd1 rfl) rfl (Nat.le_of_eq rfl) (hb hby at_24) (by decide) (by decide) ?_
    intro v3 T3 L3 X3 q3
    obtain ⟨y3, kb3, rfl, g_y3, sz3, N3q, K3, Aq3, At3⟩ := q3
    have N3 := Fr.app N2 N3q
    have ne_b1_y3 : b1 ≠ y3 := Nat.ne_of_lt (Nat.lt_of_lt_of_le E_b1.lt sz3)
    have ne_tt_y3 : tt ≠ y3 := Nat.ne_of_lt (Nat.lt_of_lt_of_le A_tt.lt sz3)
    replace E_b1 := E_b1.keep K3
    replace F_byLength_b1 := F_byLength_b1.keep K3 (ninS ne_b1_tt nin0)
    -- A_tt is dropped: written by the callee
    replace Z0 : n0 ≤ T3.heap.size := Nat.le_trans Z0 K3.1
    have A_y3 := Aq3
    have A_tt := At3
    show own_Out p_ e_ below s_ _ _ _ T3 (mkF m_ 27 #[.val (.int a), .val (.int b), .val (.int (own_m a)), .val (.int (own_m b)), .val (.ref b1), .unset, .unset, .unset, .unset, .unset, .unset] [(.ref y3)])
    refine own_st T3 (mkF m_ 32 #[.val (.int a), .val (.int b), .val (.int (own_m a)), .val (.int (own_m b)), .val (.ref b1), .val (.ref y3), .unset, .unset, .unset, .unset, .unset] [(.int (own_m b)), (.ref b1)]) (fun t_ k_ => ?_) ?_
    · refine XS.astore X3.here hx rfl (hb hby at_27) rfl rfl (l' := #[.val (.int a), .val (.int b), .val (.int (own_m a)), .val (.int (own_m b)), .val (.ref b1), .val (.ref y3), .unset, .unset, .unset, .unset, .unset]) rfl ?_
      show Steps p_.tables e_ below (T3.setTop (mkF m_ 29 #[.val (.int a), .val (.int b), .val (.int (own_m a)), .val (.int (own_m b)), .val (.ref b1), .val (.ref y3), .unset, .unset, .unset, .unset, .unset] [])) t_
      refine XS.aload X3.here hx rfl (hb hby at_29) rfl rfl ?_
      show Steps p_.tables e_ below (T3.setTop (mkF m_ 31 #[.val (.int a), .val (.int b), .val (.int (own_m a)), .val (.int (own_m b)), .val (.ref b1), .val (.ref y3), .unset, .unset, .unset, .unset, .unset] [(.ref b1)])) t_
      refine XS.iloadN X3.here hx rfl (hb hby at_31) rfl ?_
      show Steps p_.tables e_ below (T3.setTop (mkF m_ 32 #[.val (.int a), .val (.int b), .val (.int (own_m a)), .val (.int (own_m b)), .val (.ref b1), .val (.ref y3), .unset, .unset, .unset, .unset, .unset] [(.int (own_m b)), (.ref b1)])) t_
      exact k_
    by_cases h2 : own_m b < (1024 : Int32)
    · by_cases h3 : own_m a = own_m b
      · refine own_callV X3 hx hZ (y := (⟨"com/example/wiry_producer/wiryproducer/command/ReusedArrays", "of", "(I)[B"⟩ : MethodName)) (z := (⟨"com/example/wiry_producer/wiryproducer/command/ReusedArrays", "of", "(I)[B"⟩ : MethodName)) hown (hw _ (List.mem_of_getElem? (i := 13) rfl)) (hw _ (List.mem_of_getElem? (i := 14) rfl)) (notFace_of_selects (args := #[]) (mvT hZ (hw _ (List.mem_of_getElem? (i := 16) rfl)))) (hw _ (List.mem_of_getElem? (i := 16) rfl)) (hw _ (List.mem_of_getElem? (i := 15) rfl)) (hw _ (List.mem_of_getElem? (i := 2) rfl)) (hw _ (List.mem_of_getElem? (i := 17) rfl)) (by decide) b1 [(.int (own_m b))] [] E_b1 (rm3C l Z a0 hw b1 (own_m b) (own_mn b) tt kt (fun x => (if x = own_mn a then Value.ref y3 else Value.null)) y3 T3.heap n0 Z0 (own_m1 b) F_byLength_b1 A_tt (own_m5 h2) h2 (if_pos (own_m7 h3).symm)) 0 (by decide) (by decide) rfl (by rw [hml]; rfl) (lenOf own_pd1 rfl) rfl (Nat.le_of_eq rfl) (hb hby at_32) (by decide) (by decide) ?_
        intro v4 T4 L4 X4 q4
        obtain ⟨rfl, N4q, e4⟩ := q4
        have N4 := Fr.app N3 N4q
        show own_Out p_ e_ below s_ _ _ _ T4 (mkF m_ 35 #[.val (.int a), .val (.int b), .val (.int (own_m a)), .val (.int (own_m b)), .val (.ref b1), .val (.ref y3), .unset, .unset, .unset, .unset, .unset] [(.ref y3)])
        refine own_st T4 (mkF m_ 40 #[.val (.int a), .val (.int b), .val (.int (own_m a)), .val (.int (own_m b)), .val (.ref b1), .val (.ref y3), .val (.ref y3), .unset, .unset, .unset, .unset] [(.int (own_m a)), (.ref b1)]) (fun t_ k_ => ?_) ?_
        · refine XS.astore X4.here hx rfl (hb hby at_35) rfl rfl (l' := #[.val (.int a), .val (.int b), .val (.int (own_m a)), .val (.int (own_m b)), .val (.ref b1), .val (.ref y3), .val (.ref y3), .unset, .unset, .unset, .unset]) rfl ?_
          show Steps p_.tables e_ below (T4.setTop (mkF m_ 37 #[.val (.int a), .val (.int b), .val (.int (own_m a)), .val (.int (own_m b)), .val (.ref b1), .val (.ref y3), .val (.ref y3), .unset, .unset, .unset, .unset] [])) t_
          refine XS.aload X4.here hx rfl (hb hby at_37) rfl rfl ?_
          show Steps p_.tables e_ below (T4.setTop (mkF m_ 39 #[.val (.int a), .val (.int b), .val (.int (own_m a)), .val (.int (own_m b)), .val (.ref b1), .val (.ref y3), .val (.ref y3), .unset, .unset, .unset, .unset] [(.ref b1)])) t_
          refine XS.iloadN X4.here hx rfl (hb hby at_39) rfl ?_
          show Steps p_.tables e_ below (T4.setTop (mkF m_ 40 #[.val (.int a), .val (.int b), .val (.int (own_m a)), .val (.int (own_m b)), .val (.ref b1), .val (.ref y3), .val (.ref y3), .unset, .unset, .unset, .unset] [(.int (own_m a)), (.ref b1)])) t_
          exact k_
        refine own_callV X4 hx hZ (y := (⟨"com/example/wiry_producer/wiryproducer/command/ReusedArrays", "of", "(I)[B"⟩ : MethodName)) (z := (⟨"com/example/wiry_producer/wiryproducer/command/ReusedArrays", "of", "(I)[B"⟩ : MethodName)) hown (hw _ (List.mem_of_getElem? (i := 13) rfl)) (hw _ (List.mem_of_getElem? (i := 14) rfl)) (notFace_of_selects (args := #[]) (mvT hZ (hw _ (List.mem_of_getElem? (i := 16) rfl)))) (hw _ (List.mem_of_getElem? (i := 16) rfl)) (hw _ (List.mem_of_getElem? (i := 15) rfl)) (hw _ (List.mem_of_getElem? (i := 2) rfl)) (hw _ (List.mem_of_getElem? (i := 17) rfl)) (by decide) b1 [(.int (own_m a))] [] E_b1 (rm3C l Z a0 hw b1 (own_m a) (own_mn a) tt kt (fun x => (if x = own_mn a then Value.ref y3 else Value.null)) y3 T3.heap n0 Z0 (own_m1 a) F_byLength_b1 A_tt (own_m5 h1) h1 (if_pos rfl)) 0 (by decide) (by decide) e4 (by rw [hml]; rfl) (lenOf own_pd1 rfl) rfl (Nat.le_of_eq rfl) (hb hby at_40) (by decide) (by decide) ?_
        intro v5 T5 L5 X5 q5
        obtain ⟨rfl, N5q, e5⟩ := q5
        have N5 := Fr.app N4 N5q
        show own_Out p_ e_ below s_ _ _ _ T5 (mkF m_ 43 #[.val (.int a), .val (.int b), .val (.int (own_m a)), .val (.int (own_m b)), .val (.ref b1), .val (.ref y3), .val (.ref y3), .unset, .unset, .unset, .unset] [(.ref y3)])
        refine own_st T5 (mkF m_ 225 #[.val (.int a), .val (.int b), .val (.int (own_m a)), .val (.int (own_m b)), .val (.ref b1), .val (.ref y3), .val (.ref y3), .val (.ref y3), .val (.int (1 : Int32)), .val (.int (1 : Int32)), .val (.int (1 : Int32))] [(.int (1 : Int32))]) (fun t_ k_ => ?_) ?_
        · refine XS.astore X5.here hx rfl (hb hby at_43) rfl rfl (l' := #[.val (.int a), .val (.int b), .val (.int (own_m a)), .val (.int (own_m b)), .val (.ref b1), .val (.ref y3), .val (.ref y3), .val (.ref y3), .unset, .unset, .unset]) rfl ?_
          show Steps p_.tables e_ below (T5.setTop (mkF m_ 45 #[.val (.int a), .val (.int b), .val (.int (own_m a)), .val (.int (own_m b)), .val (.ref b1), .val (.ref y3), .val (.ref y3), .val (.ref y3), .unset, .unset, .unset] [])) t_
          refine XS.aload X5.here hx rfl (hb hby at_45) rfl rfl ?_
          show Steps p_.tables e_ below (T5.setTop (mkF m_ 47 #[.val (.int a), .val (.int b), .val (.int (own_m a)), .val (.int (own_m b)), .val (.ref b1), .val (.ref y3), .val (.ref y3), .val (.ref y3), .unset, .unset, .unset] [(.ref y3)])) t_
          refine XS.ifnullNo X5.here hx rfl (hb hby at_47) rfl ?_
          show Steps p_.tables e_ below (T5.setTop (mkF m_ 50 #[.val (.int a), .val (.int b), .val (.int (own_m a)), .val (.int (own_m b)), .val (.ref b1), .val (.ref y3), .val (.ref y3), .val (.ref y3), .unset, .unset, .unset] [])) t_
          refine XS.aload X5.here hx rfl (hb hby at_50) rfl rfl ?_
          show Steps p_.tables e_ below (T5.setTop (mkF m_ 52 #[.val (.int a), .val (.int b), .val (.int (own_m a)), .val (.int (own_m b)), .val (.ref b1), .val (.ref y3), .val (.ref y3), .val (.ref y3), .unset, .unset, .unset] [(.ref y3)])) t_
          refine XS.ifnullNo X5.here hx rfl (hb hby at_52) rfl ?_
          show Steps p_.tables e_ below (T5.setTop (mkF m_ 55 #[.val (.int a), .val (.int b), .val (.int (own_m a)), .val (.int (own_m b)), .val (.ref b1), .val (.ref y3), .val (.ref y3), .val (.ref y3), .unset, .unset, .unset] [])) t_
          refine XS.aload X5.here hx rfl (hb hby at_55) rfl rfl ?_
          show Steps p_.tables e_ below (T5.setTop (mkF m_ 57 #[.val (.int a), .val (.int b), .val (.int (own_m a)), .val (.int (own_m b)), .val (.ref b1), .val (.ref y3), .val (.ref y3), .val (.ref y3), .unset, .unset, .unset] [(.ref y3)])) t_
          refine XS.ifnonnullYes X5.here hx rfl (pc0 := 57) (pc' := 62) rfl (hb hby at_57) rfl (by decide) (by decide) ?_
          show Steps p_.tables e_ below (T5.setTop (mkF m_ 62 #[.val (.int a), .val (.int b), .val (.int (own_m a)), .val (.int (own_m b)), .val (.ref b1), .val (.ref y3), .val (.ref y3), .val (.ref y3), .unset, .unset, .unset] [])) t_
          refine XS.aload X5.here hx rfl (hb hby at_62) rfl rfl ?_
          show Steps p_.tables e_ below (T5.setTop (mkF m_ 64 #[.val (.int a), .val (.int b), .val (.int (own_m a)), .val (.int (own_m b)), .val (.ref b1), .val (.ref y3), .val (.ref y3), .val (.ref y3), .unset, .unset, .unset] [(.ref y3)])) t_
          refine own_len X5 hx hZ e5 A_y3 (hb hby at_64) (own_m a) (own_m1 a) _ ?_
          show Steps p_.tables e_ below (T5.setTop (mkF m_ 65 #[.val (.int a), .val (.int b), .val (.int (own_m a)), .val (.int (own_m b)), .val (.ref b1), .val (.ref y3), .val (.ref y3), .val (.ref y3), .unset, .unset, .unset] [(.int (own_m a))])) t_
          refine XS.iloadN X5.here hx rfl (hb hby at_65) rfl ?_
          show Steps p_.tables e_ below (T5.setTop (mkF m_ 66 #[.val (.int a), .val (.int b), .val (.int (own_m a)), .val (.int (own_m b)), .val (.ref b1), .val (.ref y3), .val (.ref y3), .val (.ref y3), .unset, .unset, .unset] [(.int (own_m a)), (.int (own_m a))])) t_
          refine XS.icmpNo X5.here hx rfl (hb hby at_66) rfl (teq (rfl : (own_m a) = (own_m a))).2 ?_
          show Steps p_.tables e_ below (T5.setTop (mkF m_ 69 #[.val (.int a), .val (.int b), .val (.int (own_m a)), .val (.int (own_m b)), .val (.ref b1), .val (.ref y3), .val (.ref y3), .val (.ref y3), .unset, .unset, .unset] [])) t_
          refine XS.aload X5.here hx rfl (hb hby at_69) rfl rfl ?_
          show Steps p_.tables e_ below (T5.setTop (mkF m_ 71 #[.val (.int a), .val (.int b), .val (.int (own_m a)), .val (.int (own_m b)), .val (.ref b1), .val (.ref y3), .val (.ref y3), .val (.ref y3), .unset, .unset, .unset] [(.ref y3)])) t_
          refine own_len X5 hx hZ e5 A_y3 (hb hby at_71) (own_m a) (own_m1 a) _ ?_
          show Steps p_.tables e_ below (T5.setTop (mkF m_ 72 #[.val (.int a), .val (.int b), .val (.int (own_m a)), .val (.int (own_m b)), .val (.ref b1), .val (.ref y3), .val (.ref y3), .val (.ref y3), .unset, .unset, .unset] [(.int (own_m a))])) t_
          refine XS.iloadN X5.here hx rfl (hb hby at_72) rfl ?_
          show Steps p_.tables e_ below (T5.setTop (mkF m_ 73 #[.val (.int a), .val (.int b), .val (.int (own_m a)), .val (.int (own_m b)), .val (.ref b1), .val (.ref y3), .val (.ref y3), .val (.ref y3), .unset, .unset, .unset] [(.int (own_m b)), (.int (own_m a))])) t_
          refine XS.icmpNo X5.here hx rfl (hb hby at_73) rfl (teq (h3 : (own_m a) = (own_m b))).2 ?_
          show Steps p_.tables e_ below (T5.setTop (mkF m_ 76 #[.val (.int a), .val (.int b), .val (.int (own_m a)), .val (.int (own_m b)), .val (.ref b1), .val (.ref y3), .val (.ref y3), .val (.ref y3), .unset, .unset, .unset] [])) t_
          refine XS.aload X5.here hx rfl (hb hby at_76) rfl rfl ?_
          show Steps p_.tables e_ below (T5.setTop (mkF m_ 78 #[.val (.int a), .val (.int b), .val (.int (own_m a)), .val (.int (own_m b)), .val (.ref b1), .val (.ref y3), .val (.ref y3), .val (.ref y3), .unset, .unset, .unset] [(.ref y3)])) t_
          refine own_len X5 hx hZ e5 A_y3 (hb hby at_78) (own_m a) (own_m1 a) _ ?_
          show Steps p_.tables e_ below (T5.setTop (mkF m_ 79 #[.val (.int a), .val (.int b), .val (.int (own_m a)), .val (.int (own_m b)), .val (.ref b1), .val (.ref y3), .val (.ref y3), .val (.ref y3), .unset, .unset, .unset] [(.int (own_m a))])) t_
          refine XS.iloadN X5.here hx rfl (hb hby at_79) rfl ?_
          show Steps p_.tables e_ below (T5.setTop (mkF m_ 80 #[.val (.int a), .val (.int b), .val (.int (own_m a)), .val (.int (own_m b)), .val (.ref b1), .val (.ref y3), .val (.ref y3), .val (.ref y3), .unset, .unset, .unset] [(.int (own_m a)), (.int (own_m a))])) t_
          refine XS.icmpNo X5.here hx rfl (hb hby at_80) rfl (teq (rfl : (own_m a) = (own_m a))).2 ?_
          show Steps p_.tables e_ below (T5.setTop (mkF m_ 83 #[.val (.int a), .val (.int b), .val (.int (own_m a)), .val (.int (own_m b)), .val (.ref b1), .val (.ref y3), .val (.ref y3), .val (.ref y3), .unset, .unset, .unset] [])) t_
          refine XS.iconst X5.here hx rfl (hb hby at_83) ?_
          show Steps p_.tables e_ below (T5.setTop (mkF m_ 84 #[.val (.int a), .val (.int b), .val (.int (own_m a)), .val (.int (own_m b)), .val (.ref b1), .val (.ref y3), .val (.ref y3), .val (.ref y3), .unset, .unset, .unset] [(.int (1 : Int32))])) t_
          refine XS.goto X5.here hx rfl (pc0 := 84) (pc' := 88) rfl (hb hby at_84) (by decide) (by decide) ?_
          show Steps p_.tables e_ below (T5.setTop (mkF m_ 88 #[.val (.int a), .val (.int b), .val (.int (own_m a)), .val (.int (own_m b)), .val (.ref b1), .val (.ref y3), .val (.ref y3), .val (.ref y3), .unset, .unset, .unset] [(.int (1 : Int32))])) t_
          refine XS.istore X5.here hx rfl (hb hby at_88) rfl (l' := #[.val (.int a), .val (.int b), .val (.int (own_m a)), .val (.int (own_m b)), .val (.ref b1), .val (.ref y3), .val (.ref y3), .val (.ref y3), .val (.int (1 : Int32)), .unset, .unset]) rfl ?_
          show Steps p_.tables e_ below (T5.setTop (mkF m_ 90 #[.val (.int a), .val (.int b), .val (.int (own_m a)), .val (.int (own_m b)), .val (.ref b1), .val (.ref y3), .val (.ref y3), .val (.ref y3), .val (.int (1 : Int32)), .unset, .unset] [])) t_
          refine XS.iloadN X5.here hx rfl (hb hby at_90) rfl ?_
          show Steps p_.tables e_ below (T5.setTop (mkF m_ 91 #[.val (.int a), .val (.int b), .val (.int (own_m a)), .val (.int (own_m b)), .val (.ref b1), .val (.ref y3), .val (.ref y3), .val (.ref y3), .val (.int (1 : Int32)), .unset, .unset] [(.int (own_m a))])) t_
          refine XS.sipush X5.here hx rfl (hb hby at_91) ?_
          show Steps p_.tables e_ below (T5.setTop (mkF m_ 94 #[.val (.int a), .val (.int b), .val (.int (own_m a)), .val (.int (own_m b)), .val (.ref b1), .val (.ref y3), .val (.ref y3), .val (.ref y3), .val (.int (1 : Int32)), .unset, .unset] [(.int (1024 : Int32)), (.int (own_m a))])) t_
          refine XS.icmpNo X5.here hx rfl (hb hby at_94) rfl (tlt (h1 : (own_m a) < (1024 : Int32))).2.1 ?_
          show Steps p_.tables e_ below (T5.setTop (mkF m_ 97 #[.val (.int a), .val (.int b), .val (.int (own_m a)), .val (.int (own_m b)), .val (.ref b1), .val (.ref y3), .val (.ref y3), .val (.ref y3), .val (.int (1 : Int32)), .unset, .unset] [])) t_
          refine XS.iconst X5.here hx rfl (hb hby at_97) ?_
          show Steps p_.tables e_ below (T5.setTop (mkF m_ 98 #[.val (.int a), .val (.int b), .val (.int (own_m a)), .val (.int (own_m b)), .val (.ref b1), .val (.ref y3), .val (.ref y3), .val (.ref y3), .val (.int (1 : Int32)), .unset, .unset] [(.int (1 : Int32))])) t_
          refine XS.goto X5.here hx rfl (pc0 := 98) (pc' := 102) rfl (hb hby at_98) (by decide) (by decide) ?_
          show Steps p_.tables e_ below (T5.setTop (mkF m_ 102 #[.val (.int a), .val (.int b), .val (.int (own_m a)), .val (.int (own_m b)), .val (.ref b1), .val (.ref y3), .val (.ref y3), .val (.ref y3), .val (.int (1 : Int32)), .unset, .unset] [(.int (1 : Int32))])) t_
          refine XS.istore X5.here hx rfl (hb hby at_102) rfl (l' := #[.val (.int a), .val (.int b), .val (.int (own_m a)), .val (.int (own_m b)), .val (.ref b1), .val (.ref y3), .val (.ref y3), .val (.ref y3), .val (.int (1 : Int32)), .val (.int (1 : Int32)), .unset]) rfl ?_
          show Steps p_.tables e_ below (T5.setTop (mkF m_ 104 #[.val (.int a), .val (.int b), .val (.int (own_m a)), .val (.int (own_m b)), .val (.ref b1), .val (.ref y3), .val (.ref y3), .val (.ref y3), .val (.int (1 : Int32)), .val (.int (1 : Int32)), .unset] [])) t_
          refine XS.iloadN X5.here hx rfl (hb hby at_104) rfl ?_
          show Steps p_.tables e_ below (T5.setTop (mkF m_ 105 #[.val (.int a), .val (.int b), .val (.int (own_m a)), .val (.int (own_m b)), .val (.ref b1), .val (.ref y3), .val (.ref y3), .val (.ref y3), .val (.int (1 : Int32)), .val (.int (1 : Int32)), .unset] [(.int (own_m a))])) t_
          refine XS.iloadN X5.here hx rfl (hb hby at_105) rfl ?_
          show Steps p_.tables e_ below (T5.setTop (mkF m_ 106 #[.val (.int a), .val (.int b), .val (.int (own_m a)), .val (.int (own_m b)), .val (.ref b1), .val (.ref y3), .val (.ref y3), .val (.ref y3), .val (.int (1 : Int32)), .val (.int (1 : Int32)), .unset] [(.int (own_m b)), (.int (own_m a))])) t_
          refine XS.icmpNo X5.here hx rfl (hb hby at_106) rfl (teq (h3 : (own_m a) = (own_m b))).2 ?_
          show Steps p_.tables e_ below (T5.setTop (mkF m_ 109 #[.val (.int a), .val (.int b), .val (.int (own_m a)), .val (.int (own_m b)), .val (.ref b1), .val (.ref y3), .val (.ref y3), .val (.ref y3), .val (.int (1 : Int32)), .val (.int (1 : Int32)), .unset] [])) t_
          refine XS.iload X5.here hx rfl (hb hby at_109) rfl ?_
          show Steps p_.tables e_ below (T5.setTop (mkF m_ 111 #[.val (.int a), .val (.int b), .val (.int (own_m a)), .val (.int (own_m b)), .val (.ref b1), .val (.ref y3), .val (.ref y3), .val (.ref y3), .val (.int (1 : Int32)), .val (.int (1 : Int32)), .unset] [(.int (1 : Int32))])) t_
          refine XS.ifNo X5.here hx rfl (hb hby at_111) rfl ((if0 _ _).trans (feq (by decide : ¬ ((1 : Int32) = (0 : Int32)))).1) ?_
          show Steps p_.tables e_ below (T5.setTop (mkF m_ 114 #[.val (.int a), .val (.int b), .val (.int (own_m a)), .val (.int (own_m b)), .val (.ref b1), .val (.ref y3), .val (.ref y3), .val (.ref y3), .val (.int (1 : Int32)), .val (.int (1 : Int32)), .unset] [])) t_
          refine XS.iconst X5.here hx rfl (hb hby at_114) ?_
          show Steps p_.tables e_ below (T5.setTop (mkF m_ 115 #[.val (.int a), .val (.int b), .val (.int (own_m a)), .val (.int (own_m b)), .val (.ref b1), .val (.ref y3), .val (.ref y3), .val (.ref y3), .val (.int (1 : Int32)), .val (.int (1 : Int32)), .unset] [(.int (1 : Int32))])) t_
          refine XS.goto X5.here hx rfl (pc0 := 115) (pc' := 119) rfl (hb hby at_115) (by decide) (by decide) ?_
          show Steps p_.tables e_ below (T5.setTop (mkF m_ 119 #[.val (.int a), .val (.int b), .val (.int (own_m a)), .val (.int (own_m b)), .val (.ref b1), .val (.ref y3), .val (.ref y3), .val (.ref y3), .val (.int (1 : Int32)), .val (.int (1 : Int32)), .unset] [(.int (1 : Int32))])) t_
          refine XS.istore X5.here hx rfl (hb hby at_119) rfl (l' := #[.val (.int a), .val (.int b), .val (.int (own_m a)), .val (.int (own_m b)), .val (.ref b1), .val (.ref y3), .val (.ref y3), .val (.ref y3), .val (.int (1 : Int32)), .val (.int (1 : Int32)), .val (.int (1 : Int32))]) rfl ?_
          show Steps p_.tables e_ below (T5.setTop (mkF m_ 121 #[.val (.int a), .val (.int b), .val (.int (own_m a)), .val (.int (own_m b)), .val (.ref b1), .val (.ref y3), .val (.ref y3), .val (.ref y3), .val (.int (1 : Int32)), .val (.int (1 : Int32)), .val (.int (1 : Int32))] [])) t_
          refine XS.iload X5.here hx rfl (hb hby at_121) rfl ?_
          show Steps p_.tables e_ below (T5.setTop (mkF m_ 123 #[.val (.int a), .val (.int b), .val (.int (own_m a)), .val (.int (own_m b)), .val (.ref b1), .val (.ref y3), .val (.ref y3), .val (.ref y3), .val (.int (1 : Int32)), .val (.int (1 : Int32)), .val (.int (1 : Int32))] [(.int (1 : Int32))])) t_
          refine XS.ifNo X5.here hx rfl (hb hby at_123) rfl ((if0 _ _).trans (feq (by decide : ¬ ((1 : Int32) = (0 : Int32)))).1) ?_
          show Steps p_.tables e_ below (T5.setTop (mkF m_ 126 #[.val (.int a), .val (.int b), .val (.int (own_m a)), .val (.int (own_m b)), .val (.ref b1), .val (.ref y3), .val (.ref y3), .val (.ref y3), .val (.int (1 : Int32)), .val (.int (1 : Int32)), .val (.int (1 : Int32))] [])) t_
          refine XS.iload X5.here hx rfl (hb hby at_126) rfl ?_
          show Steps p_.tables e_ below (T5.setTop (mkF m_ 128 #[.val (.int a), .val (.int b), .val (.int (own_m a)), .val (.int (own_m b)), .val (.ref b1), .val (.ref y3), .val (.ref y3), .val (.ref y3), .val (.int (1 : Int32)), .val (.int (1 : Int32)), .val (.int (1 : Int32))] [(.int (1 : Int32))])) t_
          refine XS.ifNo X5.here hx rfl (hb hby at_128) rfl ((if0 _ _).trans (feq (by decide : ¬ ((1 : Int32) = (0 : Int32)))).1) ?_
          show Steps p_.tables e_ below (T5.setTop (mkF m_ 131 #[.val (.int a), .val (.int b), .val (.int (own_m a)), .val (.int (own_m b)), .val (.ref b1), .val (.ref y3), .val (.ref y3), .val (.ref y3), .val (.int (1 : Int32)), .val (.int (1 : Int32)), .val (.int (1 : Int32))] [])) t_
          refine XS.aload X5.here hx rfl (hb hby at_131) rfl rfl ?_
          show Steps p_.tables e_ below (T5.setTop (mkF m_ 133 #[.val (.int a), .val (.int b), .val (.int (own_m a)), .val (.int (own_m b)), .val (.ref b1), .val (.ref y3), .val (.ref y3), .val (.ref y3), .val (.int (1 : Int32)), .val (.int (1 : Int32)), .val (.int (1 : Int32))] [(.ref y3)])) t_
          refine XS.aload X5.here hx rfl (hb hby at_133) rfl rfl ?_
          show Steps p_.tables e_ below (T5.setTop (mkF m_ 135 #[.val (.int a), .val (.int b), .val (.int (own_m a)), .val (.int (own_m b)), .val (.ref b1), .val (.ref y3), .val (.ref y3), .val (.ref y3), .val (.int (1 : Int32)), .val (.int (1 : Int32)), .val (.int (1 : Int32))] [(.ref y3), (.ref y3)])) t_
          refine Jvm.RoadKit.acmp (g := (mkF m_ 135 #[.val (.int a), .val (.int b), .val (.int (own_m a)), .val (.int (own_m b)), .val (.ref b1), .val (.ref y3), .val (.ref y3), .val (.ref y3), .val (.int (1 : Int32)), .val (.int (1 : Int32)), .val (.int (1 : Int32))] [(.ref y3), (.ref y3)])) X5 hx rfl rfl rfl (pc0 := 135) (pc' := 138) (same := true) rfl (hb hby at_135) rfl (decide_eq_true rfl) (by decide) (by decide) ?_
          show Steps p_.tables e_ below (T5.setTop (mkF m_ 138 #[.val (.int a), .val (.int b), .val (.int (own_m a)), .val (.int (own_m b)), .val (.ref b1), .val (.ref y3), .val (.ref y3), .val (.ref y3), .val (.int (1 : Int32)), .val (.int (1 : Int32)), .val (.int (1 : Int32))] [])) t_
          refine XS.goto X5.here hx rfl (pc0 := 138) (pc' := 148) rfl (hb hby at_138) (by decide) (by decide) ?_
          show Steps p_.tables e_ below (T5.setTop (mkF m_ 148 #[.val (.int a), .val (.int b), .val (.int (own_m a)), .val (.int (own_m b)), .val (.ref b1), .val (.ref y3), .val (.ref y3), .val (.ref y3), .val (.int (1 : Int32)), .val (.int (1 : Int32)), .val (.int (1 : Int32))] [])) t_
          refine XS.iconst X5.here hx rfl (hb hby at_148) ?_
          show Steps p_.tables e_ below (T5.setTop (mkF m_ 149 #[.val (.int a), .val (.int b), .val (.int (own_m a)), .val (.int (own_m b)), .val (.ref b1), .val (.ref y3), .val (.ref y3), .val (.ref y3), .val (.int (1 : Int32)), .val (.int (1 : Int32)), .val (.int (1 : Int32))] [(.int (1 : Int32))])) t_
          refine XS.goto X5.here hx rfl (pc0 := 149) (pc' := 153) rfl (hb hby at_149) (by decide) (by decide) ?_
          show Steps p_.tables e_ below (T5.setTop (mkF m_ 153 #[.val (.int a), .val (.int b), .val (.int (own_m a)), .val (.int (own_m b)), .val (.ref b1), .val (.ref y3), .val (.ref y3), .val (.ref y3), .val (.int (1 : Int32)), .val (.int (1 : Int32)), .val (.int (1 : Int32))] [(.int (1 : Int32))])) t_
          refine XS.istore X5.here hx rfl (hb hby at_153) rfl (l' := #[.val (.int a), .val (.int b), .val (.int (own_m a)), .val (.int (own_m b)), .val (.ref b1), .val (.ref y3), .val (.ref y3), .val (.ref y3), .val (.int (1 : Int32)), .val (.int (1 : Int32)), .val (.int (1 : Int32))]) rfl ?_
          show Steps p_.tables e_ below (T5.setTop (mkF m_ 155 #[.val (.int a), .val (.int b), .val (.int (own_m a)), .val (.int (own_m b)), .val (.ref b1), .val (.ref y3), .val (.ref y3), .val (.ref y3), .val (.int (1 : Int32)), .val (.int (1 : Int32)), .val (.int (1 : Int32))] [])) t_
          refine XS.iload X5.here hx rfl (hb hby at_155) rfl ?_
          show Steps p_.tables e_ below (T5.setTop (mkF m_ 157 #[.val (.int a), .val (.int b), .val (.int (own_m a)), .val (.int (own_m b)), .val (.ref b1), .val (.ref y3), .val (.ref y3), .val (.ref y3), .val (.int (1 : Int32)), .val (.int (1 : Int32)), .val (.int (1 : Int32))] [(.int (1 : Int32))])) t_
          refine XS.ifNo X5.here hx rfl (hb hby at_157) rfl ((if0 _ _).trans (feq (by decide : ¬ ((1 : Int32) = (0 : Int32)))).1) ?_
          show Steps p_.tables e_ below (T5.setTop (mkF m_ 160 #[.val (.int a), .val (.int b), .val (.int (own_m a)), .val (.int (own_m b)), .val (.ref b1), .val (.ref y3), .val (.ref y3), .val (.ref y3), .val (.int (1 : Int32)), .val (.int (1 : Int32)), .val (.int (1 : Int32))] [])) t_
          refine XS.iload X5.here hx rfl (hb hby at_160) rfl ?_
          show Steps p_.tables e_ below (T5.setTop (mkF m_ 162 #[.val (.int a), .val (.int b), .val (.int (own_m a)), .val (.int (own_m b)), .val (.ref b1), .val (.ref y3), .val (.ref y3), .val (.ref y3), .val (.int (1 : Int32)), .val (.int (1 : Int32)), .val (.int (1 : Int32))] [(.int (1 : Int32))])) t_
          refine XS.ifNo X5.here hx rfl (hb hby at_162) rfl ((if0 _ _).trans (feq (by decide : ¬ ((1 : Int32) = (0 : Int32)))).1) ?_
          show Steps p_.tables e_ below (T5.setTop (mkF m_ 165 #[.val (.int a), .val (.int b), .val (.int (own_m a)), .val (.int (own_m b)), .val (.ref b1), .val (.ref y3), .val (.ref y3), .val (.ref y3), .val (.int (1 : Int32)), .val (.int (1 : Int32)), .val (.int (1 : Int32))] [])) t_
          refine XS.aload X5.here hx rfl (hb hby at_165) rfl rfl ?_
          show Steps p_.tables e_ below (T5.setTop (mkF m_ 167 #[.val (.int a), .val (.int b), .val (.int (own_m a)), .val (.int (own_m b)), .val (.ref b1), .val (.ref y3), .val (.ref y3), .val (.ref y3), .val (.int (1 : Int32)), .val (.int (1 : Int32)), .val (.int (1 : Int32))] [(.ref y3)])) t_
          refine XS.aload X5.here hx rfl (hb hby at_167) rfl rfl ?_
          show Steps p_.tables e_ below (T5.setTop (mkF m_ 169 #[.val (.int a), .val (.int b), .val (.int (own_m a)), .val (.int (own_m b)), .val (.ref b1), .val (.ref y3), .val (.ref y3), .val (.ref y3), .val (.int (1 : Int32)), .val (.int (1 : Int32)), .val (.int (1 : Int32))] [(.ref y3), (.ref y3)])) t_
          refine Jvm.RoadKit.acmp (g := (mkF m_ 169 #[.val (.int a), .val (.int b), .val (.int (own_m a)), .val (.int (own_m b)), .val (.ref b1), .val (.ref y3), .val (.ref y3), .val (.ref y3), .val (.int (1 : Int32)), .val (.int (1 : Int32)), .val (.int (1 : Int32))] [(.ref y3), (.ref y3)])) X5 hx rfl rfl rfl (pc0 := 169) (pc' := 172) (same := true) rfl (hb hby at_169) rfl (decide_eq_true rfl) (by decide) (by decide) ?_
          show Steps p_.tables e_ below (T5.setTop (mkF m_ 172 #[.val (.int a), .val (.int b), .val (.int (own_m a)), .val (.int (own_m b)), .val (.ref b1), .val (.ref y3), .val (.ref y3), .val (.ref y3), .val (.int (1 : Int32)), .val (.int (1 : Int32)), .val (.int (1 : Int32))] [])) t_
          refine XS.goto X5.here hx rfl (pc0 := 172) (pc' := 182) rfl (hb hby at_172) (by decide) (by decide) ?_
          show Steps p_.tables e_ below (T5.setTop (mkF m_ 182 #[.val (.int a), .val (.int b), .val (.int (own_m a)), .val (.int (own_m b)), .val (.ref b1), .val (.ref y3), .val (.ref y3), .val (.ref y3), .val (.int (1 : Int32)), .val (.int (1 : Int32)), .val (.int (1 : Int32))] [])) t_
          refine XS.iconst X5.here hx rfl (hb hby at_182) ?_
          show Steps p_.tables e_ below (T5.setTop (mkF m_ 183 #[.val (.int a), .val (.int b), .val (.int (own_m a)), .val (.int (own_m b)), .val (.ref b1), .val (.ref y3), .val (.ref y3), .val (.ref y3), .val (.int (1 : Int32)), .val (.int (1 : Int32)), .val (.int (1 : Int32))] [(.int (1 : Int32))])) t_
          refine XS.goto X5.here hx rfl (pc0 := 183) (pc' := 187) rfl (hb hby at_183) (by decide) (by decide) ?_
          show Steps p_.tables e_ below (T5.setTop (mkF m_ 187 #[.val (.int a), .val (.int b), .val (.int (own_m a)), .val (.int (own_m b)), .val (.ref b1), .val (.ref y3), .val (.ref y3), .val (.ref y3), .val (.int (1 : Int32)), .val (.int (1 : Int32)), .val (.int (1 : Int32))] [(.int (1 : Int32))])) t_
          refine XS.istore X5.here hx rfl (hb hby at_187) rfl (l' := #[.val (.int a), .val (.int b), .val (.int (own_m a)), .val (.int (own_m b)), .val (.ref b1), .val (.ref y3), .val (.ref y3), .val (.ref y3), .val (.int (1 : Int32)), .val (.int (1 : Int32)), .val (.int (1 : Int32))]) rfl ?_
          show Steps p_.tables e_ below (T5.setTop (mkF m_ 189 #[.val (.int a), .val (.int b), .val (.int (own_m a)), .val (.int (own_m b)), .val (.ref b1), .val (.ref y3), .val (.ref y3), .val (.ref y3), .val (.int (1 : Int32)), .val (.int (1 : Int32)), .val (.int (1 : Int32))] [])) t_
          refine XS.iload X5.here hx rfl (hb hby at_189) rfl ?_
          show Steps p_.tables e_ below (T5.setTop (mkF m_ 191 #[.val (.int a), .val (.int b), .val (.int (own_m a)), .val (.int (own_m b)), .val (.ref b1), .val (.ref y3), .val (.ref y3), .val (.ref y3), .val (.int (1 : Int32)), .val (.int (1 : Int32)), .val (.int (1 : Int32))] [(.int (1 : Int32))])) t_
          refine XS.ifNo X5.here hx rfl (hb hby at_191) rfl ((if0 _ _).trans (feq (by decide : ¬ ((1 : Int32) = (0 : Int32)))).1) ?_
          show Steps p_.tables e_ below (T5.setTop (mkF m_ 194 #[.val (.int a), .val (.int b), .val (.int (own_m a)), .val (.int (own_m b)), .val (.ref b1), .val (.ref y3), .val (.ref y3), .val (.ref y3), .val (.int (1 : Int32)), .val (.int (1 : Int32)), .val (.int (1 : Int32))] [])) t_
          refine XS.iload X5.here hx rfl (hb hby at_194) rfl ?_
          show Steps p_.tables e_ below (T5.setTop (mkF m_ 196 #[.val (.int a), .val (.int b), .val (.int (own_m a)), .val (.int (own_m b)), .val (.ref b1), .val (.ref y3), .val (.ref y3), .val (.ref y3), .val (.int (1 : Int32)), .val (.int (1 : Int32)), .val (.int (1 : Int32))] [(.int (1 : Int32))])) t_
          refine XS.ifNo X5.here hx rfl (hb hby at_196) rfl ((if0 _ _).trans (feq (by decide : ¬ ((1 : Int32) = (0 : Int32)))).1) ?_
          show Steps p_.tables e_ below (T5.setTop (mkF m_ 199 #[.val (.int a), .val (.int b), .val (.int (own_m a)), .val (.int (own_m b)), .val (.ref b1), .val (.ref y3), .val (.ref y3), .val (.ref y3), .val (.int (1 : Int32)), .val (.int (1 : Int32)), .val (.int (1 : Int32))] [])) t_
          refine XS.aload X5.here hx rfl (hb hby at_199) rfl rfl ?_
          show Steps p_.tables e_ below (T5.setTop (mkF m_ 201 #[.val (.int a), .val (.int b), .val (.int (own_m a)), .val (.int (own_m b)), .val (.ref b1), .val (.ref y3), .val (.ref y3), .val (.ref y3), .val (.int (1 : Int32)), .val (.int (1 : Int32)), .val (.int (1 : Int32))] [(.ref y3)])) t_
          refine XS.aload X5.here hx rfl (hb hby at_201) rfl rfl ?_
          show Steps p_.tables e_ below (T5.setTop (mkF m_ 203 #[.val (.int a), .val (.int b), .val (.int (own_m a)), .val (.int (own_m b)), .val (.ref b1), .val (.ref y3), .val (.ref y3), .val (.ref y3), .val (.int (1 : Int32)), .val (.int (1 : Int32)), .val (.int (1 : Int32))] [(.ref y3), (.ref y3)])) t_
          refine Jvm.RoadKit.acmp (g := (mkF m_ 203 #[.val (.int a), .val (.int b), .val (.int (own_m a)), .val (.int (own_m b)), .val (.ref b1), .val (.ref y3), .val (.ref y3), .val (.ref y3), .val (.int (1 : Int32)), .val (.int (1 : Int32)), .val (.int (1 : Int32))] [(.ref y3), (.ref y3)])) X5 hx rfl rfl rfl (pc0 := 203) (pc' := 206) (same := true) rfl (hb hby at_203) rfl (decide_eq_true rfl) (by decide) (by decide) ?_
          show Steps p_.tables e_ below (T5.setTop (mkF m_ 206 #[.val (.int a), .val (.int b), .val (.int (own_m a)), .val (.int (own_m b)), .val (.ref b1), .val (.ref y3), .val (.ref y3), .val (.ref y3), .val (.int (1 : Int32)), .val (.int (1 : Int32)), .val (.int (1 : Int32))] [])) t_
          refine XS.goto X5.here hx rfl (pc0 := 206) (pc' := 216) rfl (hb hby at_206) (by decide) (by decide) ?_
          show Steps p_.tables e_ below (T5.setTop (mkF m_ 216 #[.val (.int a), .val (.int b), .val (.int (own_m a)), .val (.int (own_m b)), .val (.ref b1), .val (.ref y3), .val (.ref y3), .val (.ref y3), .val (.int (1 : Int32)), .val (.int (1 : Int32)), .val (.int (1 : Int32))] [])) t_
          refine XS.iconst X5.here hx rfl (hb hby at_216) ?_
          show Steps p_.tables e_ below (T5.setTop (mkF m_ 217 #[.val (.int a), .val (.int b), .val (.int (own_m a)), .val (.int (own_m b)), .val (.ref b1), .val (.ref y3), .val (.ref y3), .val (.ref y3), .val (.int (1 : Int32)), .val (.int (1 : Int32)), .val (.int (1 : Int32))] [(.int (1 : Int32))])) t_
          refine XS.goto X5.here hx rfl (pc0 := 217) (pc' := 221) rfl (hb hby at_217) (by decide) (by decide) ?_
          show Steps p_.tables e_ below (T5.setTop (mkF m_ 221 #[.val (.int a), .val (.int b), .val (.int (own_m a)), .val (.int (own_m b)), .val (.ref b1), .val (.ref y3), .val (.ref y3), .val (.ref y3), .val (.int (1 : Int32)), .val (.int (1 : Int32)), .val (.int (1 : Int32))] [(.int (1 : Int32))])) t_
          refine XS.istore X5.here hx rfl (hb hby at_221) rfl (l' := #[.val (.int a), .val (.int b), .val (.int (own_m a)), .val (.int (own_m b)), .val (.ref b1), .val (.ref y3), .val (.ref y3), .val (.ref y3), .val (.int (1 : Int32)), .val (.int (1 : Int32)), .val (.int (1 : Int32))]) rfl ?_
          show Steps p_.tables e_ below (T5.setTop (mkF m_ 223 #[.val (.int a), .val (.int b), .val (.int (own_m a)), .val (.int (own_m b)), .val (.ref b1), .val (.ref y3), .val (.ref y3), .val (.ref y3), .val (.int (1 : Int32)), .val (.int (1 : Int32)), .val (.int (1 : Int32))] [])) t_
          refine XS.iload X5.here hx rfl (hb hby at_223) rfl ?_
          show Steps p_.tables e_ below (T5.setTop (mkF m_ 225 #[.val (.int a), .val (.int b), .val (.int (own_m a)), .val (.int (own_m b)), .val (.ref b1), .val (.ref y3), .val (.ref y3), .val (.ref y3), .val (.int (1 : Int32)), .val (.int (1 : Int32)), .val (.int (1 : Int32))] [(.int (1 : Int32))])) t_
          exact k_
        refine own_retN X5 hx hlk (t := .boolean) hret (by simp) (hb hby at_225) (by decide) (by decide) ?_
        exact ⟨rfl, N5⟩
      · refine own_callV X3 hx hZ (y := (⟨"com/example/wiry_producer/wiryproducer/command/ReusedArrays", "of", "(I)[B"⟩ : MethodName)) (z := (⟨"com/example/wiry_producer/wiryproducer/command/ReusedArrays", "of", "(I)[B"⟩ : MethodName)) hown (hw _ (List.mem_of_getElem? (i := 13) rfl)) (hw _ (List.mem_of_getElem? (i := 14) rfl)) (notFace_of_selects (args := #[]) (mvT hZ (hw _ (List.mem_of_getElem? (i := 16) rfl)))) (hw _ (List.mem_of_getElem? (i := 16) rfl)) (hw _ (List.mem_of_getElem? (i := 15) rfl)) (hw _ (List.mem_of_getElem? (i := 2) rfl)) (hw _ (List.mem_of_getElem? (i := 17) rfl)) (by decide) b1 [(.int (own_m b))] [] E_b1 (rm3B l Z a0 hw b1 (own_m b) (own_mn b) tt kt (fun x => (if x = own_mn a then Value.ref y3 else Value.null)) T3.heap n0 Z0 (own_m3 b) rfl (own_m1 b) F_byLength_b1 A_tt Ott (own_m5 h2) h2 (own_m6 h2) (if_neg (Ne.symm (own_m8 h3))) g_tt ne_b1_tt) 0 (by decide) (by decide) rfl (by rw [hml]; rfl) (lenOf own_pd1 rfl) rfl (Nat.le_of_eq rfl) (hb hby at_32) (by decide) (by decide) ?_
        intro v6 T6 L6 X6 q6
        obtain ⟨y6, kb6, rfl, g_y6, sz6, N6q, K6, Aq6, At6⟩ := q6
        have N6 := Fr.app N3 N6q
        have ne_b1_y6 : b1 ≠ y6 := Nat.ne_of_lt (Nat.lt_of_lt_of_le E_b1.lt sz6)
        have ne_y3_y6 : y3 ≠ y6 := Nat.ne_of_lt (Nat.lt_of_lt_of_le A_y3.lt sz6)
        have ne_tt_y6 : tt ≠ y6 := Nat.ne_of_lt (Nat.lt_of_lt_of_le A_tt.lt sz6)
        replace E_b1 := E_b1.keep K6
        replace F_byLength_b1 := F_byLength_b1.keep K6 (ninS ne_b1_tt nin0)
        replace A_y3 := A_y3.keep K6 (ninS (Ne.symm ne_tt_y3) nin0)
        -- A_tt is dropped: written by the callee
        replace Z0 : n0 ≤ T6.heap.size := Nat.le_trans Z0 K6.1
        have A_y6 := Aq6
        have A_tt := At6
        show own_Out p_ e_ below s_ _ _ _ T6 (mkF m_ 35 #[.val (.int a), .val (.int b), .val (.int (own_m a)), .val (.int (own_m b)), .val (.ref b1), .val (.ref y3), .unset, .unset, .unset, .unset, .unset] [(.ref y6)])
        refine own_st T6 (mkF m_ 40 #[.val (.int a), .val (.int b), .val (.int (own_m a)), .val (.int (own_m b)), .val (.ref b1), .val (.ref y3), .val (.ref y6), .unset, .unset, .unset, .unset] [(.int (own_m a)), (.ref b1)]) (fun t_ k_ => ?_) ?_
        · refine XS.astore X6.here hx rfl (hb hby at_35) rfl rfl (l' := #[.val (.int a), .val (.int b), .val (.int (own_m a)), .val (.int (own_m b)), .val (.ref b1), .val (.ref y3), .val (.ref y6), .unset, .unset, .unset, .unset]) rfl ?_
          show Steps p_.tables e_ below (T6.setTop (mkF m_ 37 #[.val (.int a), .val (.int b), .val (.int (own_m a)), .val (.int (own_m b)), .val (.ref b1), .val (.ref y3), .val (.ref y6), .unset, .unset, .unset, .unset] [])) t_
          refine XS.aload X6.here hx rfl (hb hby at_37) rfl rfl ?_
          show Steps p_.tables e_ below (T6.setTop (mkF m_ 39 #[.val (.int a), .val (.int b), .val (.int (own_m a)), .val (.int (own_m b)), .val (.ref b1), .val (.ref y3), .val (.ref y6), .unset, .unset, .unset, .unset] [(.ref b1)])) t_
          refine XS.iloadN X6.here hx rfl (hb hby at_39) rfl ?_
          show Steps p_.tables e_ below (T6.setTop (mkF m_ 40 #[.val (.int a), .val (.int b), .val (.int (own_m a)), .val (.int (own_m b)), .val (.ref b1), .val (.ref y3), .val (.ref y6), .unset, .unset, .unset, .unset] [(.int (own_m a)), (.ref b1)])) t_
          exact k_
        refine own_callV X6 hx hZ (y := (⟨"com/example/wiry_producer/wiryproducer/command/ReusedArrays", "of", "(I)[B"⟩ : MethodName)) (z := (⟨"com/example/wiry_producer/wiryproducer/command/ReusedArrays", "of", "(I)[B"⟩ : MethodName)) hown (hw _ (List.mem_of_getElem? (i := 13) rfl)) (hw _ (List.mem_of_getElem? (i := 14) rfl)) (notFace_of_selects (args := #[]) (mvT hZ (hw _ (List.mem_of_getElem? (i := 16) rfl)))) (hw _ (List.mem_of_getElem? (i := 16) rfl)) (hw _ (List.mem_of_getElem? (i := 15) rfl)) (hw _ (List.mem_of_getElem? (i := 2) rfl)) (hw _ (List.mem_of_getElem? (i := 17) rfl)) (by decide) b1 [(.int (own_m a))] [] E_b1 (rm3C l Z a0 hw b1 (own_m a) (own_mn a) tt kt (fun x => (if x = own_mn b then Value.ref y6 else (if x = own_mn a then Value.ref y3 else Value.null))) y3 T6.heap n0 Z0 (own_m1 a) F_byLength_b1 A_tt (own_m5 h1) h1 ((if_neg (own_m8 h3)).trans (if_pos rfl))) 0 (by decide) (by decide) rfl (by rw [hml]; rfl) (lenOf own_pd1 rfl) rfl (Nat.le_of_eq rfl) (hb hby at_40) (by decide) (by decide) ?_
        intro v7 T7 L7 X7 q7
        obtain ⟨rfl, N7q, e7⟩ := q7
        have N7 := Fr.app N6 N7q
        show own_Out p_ e_ below s_ _ _ _ T7 (mkF m_ 43 #[.val (.int a), .val (.int b), .val (.int (own_m a)), .val (.int (own_m b)), .val (.ref b1), .val (.ref y3), .val (.ref y6), .unset, .unset, .unset, .unset] [(.ref y3)])
        refine own_st T7 (mkF m_ 225 #[.val (.int a), .val (.int b), .val (.int (own_m a)), .val (.int (own_m b)), .val (.ref b1), .val (.ref y3), .val (.ref y6), .val (.ref y3), .val (.int (1 : Int32)), .val (.int (1 : Int32)), .val (.int (0 : Int32))] [(.int (1 : Int32))]) (fun t_ k_ => ?_) ?_
        · refine XS.astore X7.here hx rfl (hb hby at_43) rfl rfl (l' := #[.val (.int a), .val (.int b), .val (.int (own_m a)), .val (.int (own_m b)), .val (.ref b1), .val (.ref y3), .val (.ref y6), .val (.ref y3), .unset, .unset, .unset]) rfl ?_
          show Steps p_.tables e_ below (T7.setTop (mkF m_ 45 #[.val (.int a), .val (.int b), .val (.int (own_m a)), .val (.int (own_m b)), .val (.ref b1), .val (.ref y3), .val (.ref y6), .val (.ref y3), .unset, .unset, .unset] [])) t_
          refine XS.aload X7.here hx rfl (hb hby at_45) rfl rfl ?_
          show Steps p_.tables e_ below (T7.setTop (mkF m_ 47 #[.val (.int a), .val (.int b), .val (.int (own_m a)), .val (.int (own_m b)), .val (.ref b1), .val (.ref y3), .val (.ref y6), .val (.ref y3), .unset, .unset, .unset] [(.ref y3)])) t_
          refine XS.ifnullNo X7.here hx rfl (hb hby at_47) rfl ?_
          show Steps p_.tables e_ below (T7.setTop (mkF m_ 50 #[.val (.int a), .val (.int b), .val (.int (own_m a)), .val (.int (own_m b)), .val (.ref b1), .val (.ref y3), .val (.ref y6), .val (.ref y3), .unset, .unset, .unset] [])) t_
          refine XS.aload X7.here hx rfl (hb hby at_50) rfl rfl ?_
          show Steps p_.tables e_ below (T7.setTop (mkF m_ 52 #[.val (.int a), .val (.int b), .val (.int (own_m a)), .val (.int (own_m b)), .val (.ref b1), .val (.ref y3), .val (.ref y6), .val (.ref y3), .unset, .unset, .unset] [(.ref y6)])) t_
          refine XS.ifnullNo X7.here hx rfl (hb hby at_52) rfl ?_
          show Steps p_.tables e_ below (T7.setTop (mkF m_ 55 #[.val (.int a), .val (.int b), .val (.int (own_m a)), .val (.int (own_m b)), .val (.ref b1), .val (.ref y3), .val (.ref y6), .val (.ref y3), .unset, .unset, .unset] [])) t_
          refine XS.aload X7.here hx rfl (hb hby at_55) rfl rfl ?_
          show Steps p_.tables e_ below (T7.setTop (mkF m_ 57 #[.val (.int a), .val (.int b), .val (.int (own_m a)), .val (.int (own_m b)), .val (.ref b1), .val (.ref y3), .val (.ref y6), .val (.ref y3), .unset, .unset, .unset] [(.ref y3)])) t_
          refine XS.ifnonnullYes X7.here hx rfl (pc0 := 57) (pc' := 62) rfl (hb hby at_57) rfl (by decide) (by decide) ?_
          show Steps p_.tables e_ below (T7.setTop (mkF m_ 62 #[.val (.int a), .val (.int b), .val (.int (own_m a)), .val (.int (own_m b)), .val (.ref b1), .val (.ref y3), .val (.ref y6), .val (.ref y3), .unset, .unset, .unset] [])) t_
          refine XS.aload X7.here hx rfl (hb hby at_62) rfl rfl ?_
          show Steps p_.tables e_ below (T7.setTop (mkF m_ 64 #[.val (.int a), .val (.int b), .val (.int (own_m a)), .val (.int (own_m b)), .val (.ref b1), .val (.ref y3), .val (.ref y6), .val (.ref y3), .unset, .unset, .unset] [(.ref y3)])) t_
          refine own_len X7 hx hZ e7 A_y3 (hb hby at_64) (own_m a) (own_m1 a) _ ?_
          show Steps p_.tables e_ below (T7.setTop (mkF m_ 65 #[.val (.int a), .val (.int b), .val (.int (own_m a)), .val (.int (own_m b)), .val (.ref b1), .val (.ref y3), .val (.ref y6), .val (.ref y3), .unset, .unset, .unset] [(.int (own_m a))])) t_
          refine XS.iloadN X7.here hx rfl (hb hby at_65) rfl ?_
          show Steps p_.tables e_ below (T7.setTop (mkF m_ 66 #[.val (.int a), .val (.int b), .val (.int (own_m a)), .val (.int (own_m b)), .val (.ref b1), .val (.ref y3), .val (.ref y6), .val (.ref y3), .unset, .unset, .unset] [(.int (own_m a)), (.int (own_m a))])) t_
          refine XS.icmpNo X7.here hx rfl (hb hby at_66) rfl (teq (rfl : (own_m a) = (own_m a))).2 ?_
          show Steps p_.tables e_ below (T7.setTop (mkF m_ 69 #[.val (.int a), .val (.int b), .val (.int (own_m a)), .val (.int (own_m b)), .val (.ref b1), .val (.ref y3), .val (.ref y6), .val (.ref y3), .unset, .unset, .unset] [])) t_
          refine XS.aload X7.here hx rfl (hb hby at_69) rfl rfl ?_
          show Steps p_.tables e_ below (T7.setTop (mkF m_ 71 #[.val (.int a), .val (.int b), .val (.int (own_m a)), .val (.int (own_m b)), .val (.ref b1), .val (.ref y3), .val (.ref y6), .val (.ref y3), .unset, .unset, .unset] [(.ref y6)])) t_
          refine own_len X7 hx hZ e7 A_y6 (hb hby at_71) (own_m b) (own_m1 b) _ ?_
          show Steps p_.tables e_ below (T7.setTop (mkF m_ 72 #[.val (.int a), .val (.int b), .val (.int (own_m a)), .val (.int (own_m b)), .val (.ref b1), .val (.ref y3), .val (.ref y6), .val (.ref y3), .unset, .unset, .unset] [(.int (own_m b))])) t_
          refine XS.iloadN X7.here hx rfl (hb hby at_72) rfl ?_
          show Steps p_.tables e_ below (T7.setTop (mkF m_ 73 #[.val (.int a), .val (.int b), .val (.int (own_m a)), .val (.int (own_m b)), .val (.ref b1), .val (.ref y3), .val (.ref y6), .val (.ref y3), .unset, .unset, .unset] [(.int (own_m b)), (.int (own_m b))])) t_
          refine XS.icmpNo X7.here hx rfl (hb hby at_73) rfl (teq (rfl : (own_m b) = (own_m b))).2 ?_
          show Steps p_.tables e_ below (T7.setTop (mkF m_ 76 #[.val (.int a), .val (.int b), .val (.int (own_m a)), .val (.int (own_m b)), .val (.ref b1), .val (.ref y3), .val (.ref y6), .val (.ref y3), .unset, .unset, .unset] [])) t_
          refine XS.aload X7.here hx rfl (hb hby at_76) rfl rfl ?_
          show Steps p_.tables e_ below (T7.setTop (mkF m_ 78 #[.val (.int a), .val (.int b), .val (.int (own_m a)), .val (.int (own_m b)), .val (.ref b1), .val (.ref y3), .val (.ref y6), .val (.ref y3), .unset, .unset, .unset] [(.ref y3)])) t_
          refine own_len X7 hx hZ e7 A_y3 (hb hby at_78) (own_m a) (own_m1 a) _ ?_
          show Steps p_.tables e_ below (T7.setTop (mkF m_ 79 #[.val (.int a), .val (.int b), .val (.int (own_m a)), .val (.int (own_m b)), .val (.ref b1), .val (.ref y3), .val (.ref y6), .val (.ref y3), .unset, .unset, .unset] [(.int (own_m a))])) t_
          refine XS.iloadN X7.here hx rfl (hb hby at_79) rfl ?_
          show Steps p_.tables e_ below (T7.setTop (mkF m_ 80 #[.val (.int a), .val (.int b), .val (.int (own_m a)), .val (.int (own_m b)), .val (.ref b1), .val (.ref y3), .val (.ref y6), .val (.ref y3), .unset, .unset, .unset] [(.int (own_m a)), (.int (own_m a))])) t_
          refine XS.icmpNo X7.here hx rfl (hb hby at_80) rfl (teq (rfl : (own_m a) = (own_m a))).2 ?_
          show Steps p_.tables e_ below (T7.setTop (mkF m_ 83 #[.val (.int a), .val (.int b), .val (.int (own_m a)), .val (.int (own_m b)), .val (.ref b1), .val (.ref y3), .val (.ref y6), .val (.ref y3), .unset, .unset, .unset] [])) t_
          refine XS.iconst X7.here hx rfl (hb hby at_83) ?_
          show Steps p_.tables e_ below (T7.setTop (mkF m_ 84 #[.val (.int a), .val (.int b), .val (.int (own_m a)), .val (.int (own_m b)), .val (.ref b1), .val (.ref y3), .val (.ref y6), .val (.ref y3), .unset, .unset, .unset] [(.int (1 : Int32))])) t_
          refine XS.goto X7.here hx rfl (pc0 := 84) (pc' := 88) rfl (hb hby at_84) (by decide) (by decide) ?_
          show Steps p_.tables e_ below (T7.setTop (mkF m_ 88 #[.val (.int a), .val (.int b), .val (.int (own_m a)), .val (.int (own_m b)), .val (.ref b1), .val (.ref y3), .val (.ref y6), .val (.ref y3), .unset, .unset, .unset] [(.int (1 : Int32))])) t_
          refine XS.istore X7.here hx rfl (hb hby at_88) rfl (l' := #[.val (.int a), .val (.int b), .val (.int (own_m a)), .val (.int (own_m b)), .val (.ref b1), .val (.ref y3), .val (.ref y6), .val (.ref y3), .val (.int (1 : Int32)), .unset, .unset]) rfl ?_
          show Steps p_.tables e_ below (T7.setTop (mkF m_ 90 #[.val (.int a), .val (.int b), .val (.int (own_m a)), .val (.int (own_m b)), .val (.ref b1), .val (.ref y3), .val (.ref y6), .val (.ref y3), .val (.int (1 : Int32)), .unset, .unset] [])) t_
          refine XS.iloadN X7.here hx rfl (hb hby at_90) rfl ?_
          show Steps p_.tables e_ below (T7.setTop (mkF m_ 91 #[.val (.int a), .val (.int b), .val (.int (own_m a)), .val (.int (own_m b)), .val (.ref b1), .val (.ref y3), .val (.ref y6), .val (.ref y3), .val (.int (1 : Int32)), .unset, .unset] [(.int (own_m a))])) t_
          refine XS.sipush X7.here hx rfl (hb hby at_91) ?_
          show Steps p_.tables e_ below (T7.setTop (mkF m_ 94 #[.val (.int a), .val (.int b), .val (.int (own_m a)), .val (.int (own_m b)), .val (.ref b1), .val (.ref y3), .val (.ref y6), .val (.ref y3), .val (.int (1 : Int32)), .unset, .unset] [(.int (1024 : Int32)), (.int (own_m a))])) t_
          refine XS.icmpNo X7.here hx rfl (hb hby at_94) rfl (tlt (h1 : (own_m a) < (1024 : Int32))).2.1 ?_
          show Steps p_.tables e_ below (T7.setTop (mkF m_ 97 #[.val (.int a), .val (.int b), .val (.int (own_m a)), .val (.int (own_m b)), .val (.ref b1), .val (.ref y3), .val (.ref y6), .val (.ref y3), .val (.int (1 : Int32)), .unset, .unset] [])) t_
          refine XS.iconst X7.here hx rfl (hb hby at_97) ?_
          show Steps p_.tables e_ below (T7.setTop (mkF m_ 98 #[.val (.int a), .val (.int b), .val (.int (own_m a)), .val (.int (own_m b)), .val (.ref b1), .val (.ref y3), .val (.ref y6), .val (.ref y3), .val (.int (1 : Int32)), .unset, .unset] [(.int (1 : Int32))])) t_
          refine XS.goto X7.here hx rfl (pc0 := 98) (pc' := 102) rfl (hb hby at_98) (by decide) (by decide) ?_
          show Steps p_.tables e_ below (T7.setTop (mkF m_ 102 #[.val (.int a), .val (.int b), .val (.int (own_m a)), .val (.int (own_m b)), .val (.ref b1), .val (.ref y3), .val (.ref y6), .val (.ref y3), .val (.int (1 : Int32)), .unset, .unset] [(.int (1 : Int32))])) t_
          refine XS.istore X7.here hx rfl (hb hby at_102) rfl (l' := #[.val (.int a), .val (.int b), .val (.int (own_m a)), .val (.int (own_m b)), .val (.ref b1), .val (.ref y3), .val (.ref y6), .val (.ref y3), .val (.int (1 : Int32)), .val (.int (1 : Int32)), .unset]) rfl ?_
          show Steps p_.tables e_ below (T7.setTop (mkF m_ 104 #[.val (.int a), .val (.int b), .val (.int (own_m a)), .val (.int (own_m b)), .val (.ref b1), .val (.ref y3), .val (.ref y6), .val (.ref y3), .val (.int (1 : Int32)), .val (.int (1 : Int32)), .unset] [])) t_
          refine XS.iloadN X7.here hx rfl (hb hby at_104) rfl ?_
          show Steps p_.tables e_ below (T7.setTop (mkF m_ 105 #[.val (.int a), .val (.int b), .val (.int (own_m a)), .val (.int (own_m b)), .val (.ref b1), .val (.ref y3), .val (.ref y6), .val (.ref y3), .val (.int (1 : Int32)), .val (.int (1 : Int32)), .unset] [(.int (own_m a))])) t_
          refine XS.iloadN X7.here hx rfl (hb hby at_105) rfl ?_
          show Steps p_.tables e_ below (T7.setTop (mkF m_ 106 #[.val (.int a), .val (.int b), .val (.int (own_m a)), .val (.int (own_m b)), .val (.ref b1), .val (.ref y3), .val (.ref y6), .val (.ref y3), .val (.int (1 : Int32)), .val (.int (1 : Int32)), .unset] [(.int (own_m b)), (.int (own_m a))])) t_
          refine XS.icmpYes X7.here hx rfl (pc0 := 106) (pc' := 118) rfl (hb hby at_106) rfl (feq (h3 : ¬ ((own_m a) = (own_m b)))).2 (by decide) (by decide) ?_
          show Steps p_.tables e_ below (T7.setTop (mkF m_ 118 #[.val (.int a), .val (.int b), .val (.int (own_m a)), .val (.int (own_m b)), .val (.ref b1), .val (.ref y3), .val (.ref y6), .val (.ref y3), .val (.int (1 : Int32)), .val (.int (1 : Int32)), .unset] [])) t_
          refine XS.iconst X7.here hx rfl (hb hby at_118) ?_
          show Steps p_.tables e_ below (T7.setTop (mkF m_ 119 #[.val (.int a), .val (.int b), .val (.int (own_m a)), .val (.int (own_m b)), .val (.ref b1), .val (.ref y3), .val (.ref y6), .val (.ref y3), .val (.int (1 : Int32)), .val (.int (1 : Int32)), .unset] [(.int (0 : Int32))])) t_
          refine XS.istore X7.here hx rfl (hb hby at_119) rfl (l' := #[.val (.int a), .val (.int b), .val (.int (own_m a)), .val (.int (own_m b)), .val (.ref b1), .val (.ref y3), .val (.ref y6), .val (.ref y3), .val (.int (1 : Int32)), .val (.int (1 : Int32)), .val (.int (0 : Int32))]) rfl ?_
          show Steps p_.tables e_ below (T7.setTop (mkF m_ 121 #[.val (.int a), .val (.int b), .val (.int (own_m a)), .val (.int (own_m b)), .val (.ref b1), .val (.ref y3), .val (.ref y6), .val (.ref y3), .val (.int (1 : Int32)), .val (.int (1 : Int32)), .val (.int (0 : Int32))] [])) t_
          refine XS.iload X7.here hx rfl (hb hby at_121) rfl ?_
          show Steps p_.tables e_ below (T7.setTop (mkF m_ 123 #[.val (.int a), .val (.int b), .val (.int (own_m a)), .val (.int (own_m b)), .val (.ref b1), .val (.ref y3), .val (.ref y6), .val (.ref y3), .val (.int (1 : Int32)), .val (.int (1 : Int32)), .val (.int (0 : Int32))] [(.int (1 : Int32))])) t_
          refine XS.ifNo X7.here hx rfl (hb hby at_123) rfl ((if0 _ _).trans (feq (by decide : ¬ ((1 : Int32) = (0 : Int32)))).1) ?_
          show Steps p_.tables e_ below (T7.setTop (mkF m_ 126 #[.val (.int a), .val (.int b), .val (.int (own_m a)), .val (.int (own_m b)), .val (.ref b1), .val (.ref y3), .val (.ref y6), .val (.ref y3), .val (.int (1 : Int32)), .val (.int (1 : Int32)), .val (.int (0 : Int32))] [])) t_
          refine XS.iload X7.here hx rfl (hb hby at_126) rfl ?_
          show Steps p_.tables e_ below (T7.setTop (mkF m_ 128 #[.val (.int a), .val (.int b), .val (.int (own_m a)), .val (.int (own_m b)), .val (.ref b1), .val (.ref y3), .val (.ref y6), .val (.ref y3), .val (.int (1 : Int32)), .val (.int (1 : Int32)), .val (.int (0 : Int32))] [(.int (1 : Int32))])) t_
          refine XS.ifNo X7.here hx rfl (hb hby at_128) rfl ((if0 _ _).trans (feq (by decide : ¬ ((1 : Int32) = (0 : Int32)))).1) ?_
          show Steps p_.tables e_ below (T7.setTop (mkF m_ 131 #[.val (.int a), .val (.int b), .val (.int (own_m a)), .val (.int (own_m b)), .val (.ref b1), .val (.ref y3), .val (.ref y6), .val (.ref y3), .val (.int (1 : Int32)), .val (.int (1 : Int32)), .val (.int (0 : Int32))] [])) t_
          refine XS.aload X7.here hx rfl (hb hby at_131) rfl rfl ?_
          show Steps p_.tables e_ below (T7.setTop (mkF m_ 133 #[.val (.int a), .val (.int b), .val (.int (own_m a)), .val (.int (own_m b)), .val (.ref b1), .val (.ref y3), .val (.ref y6), .val (.ref y3), .val (.int (1 : Int32)), .val (.int (1 : Int32)), .val (.int (0 : Int32))] [(.ref y3)])) t_
          refine XS.aload X7.here hx rfl (hb hby at_133) rfl rfl ?_
          show Steps p_.tables e_ below (T7.setTop (mkF m_ 135 #[.val (.int a), .val (.int b), .val (.int (own_m a)), .val (.int (own_m b)), .val (.ref b1), .val (.ref y3), .val (.ref y6), .val (.ref y3), .val (.int (1 : Int32)), .val (.int (1 : Int32)), .val (.int (0 : Int32))] [(.ref y3), (.ref y3)])) t_
          refine Jvm.RoadKit.acmp (g := (mkF m_ 135 #[.val (.int a), .val (.int b), .val (.int (own_m a)), .val (.int (own_m b)), .val (.ref b1), .val (.ref y3), .val (.ref y6), .val (.ref y3), .val (.int (1 : Int32)), .val (.int (1 : Int32)), .val (.int (0 : Int32))] [(.ref y3), (.ref y3)])) X7 hx rfl rfl rfl (pc0 := 135) (pc' := 138) (same := true) rfl (hb hby at_135) rfl (decide_eq_true rfl) (by decide) (by decide) ?_
          show Steps p_.tables e_ below (T7.setTop (mkF m_ 138 #[.val (.int a), .val (.int b), .val (.int (own_m a)), .val (.int (own_m b)), .val (.ref b1), .val (.ref y3), .val (.ref y6), .val (.ref y3), .val (.int (1 : Int32)), .val (.int (1 : Int32)), .val (.int (0 : Int32))] [])) t_
          refine XS.goto X7.here hx rfl (pc0 := 138) (pc' := 148) rfl (hb hby at_138) (by decide) (by decide) ?_
          show Steps p_.tables e_ below (T7.setTop (mkF m_ 148 #[.val (.int a), .val (.int b), .val (.int (own_m a)), .val (.int (own_m b)), .val (.ref b1), .val (.ref y3), .val (.ref y6), .val (.ref y3), .val (.int (1 : Int32)), .val (.int (1 : Int32)), .val (.int (0 : Int32))] [])) t_
          refine XS.iconst X7.here hx rfl (hb hby at_148) ?_
          show Steps p_.tables e_ below (T7.setTop (mkF m_ 149 #[.val (.int a), .val (.int b), .val (.int (own_m a)), .val (.int (own_m b)), .val (.ref b1), .val (.ref y3), .val (.ref y6), .val (.ref y3), .val (.int (1 : Int32)), .val (.int (1 : Int32)), .val (.int (0 : Int32))] [(.int (1 : Int32))])) t_
          refine XS.goto X7.here hx rfl (pc0 := 149) (pc' := 153) rfl (hb hby at_149) (by decide) (by decide) ?_
          show Steps p_.tables e_ below (T7.setTop (mkF m_ 153 #[.val (.int a), .val (.int b), .val (.int (own_m a)), .val (.int (own_m b)), .val (.ref b1), .val (.ref y3), .val (.ref y6), .val (.ref y3), .val (.int (1 : Int32)), .val (.int (1 : Int32)), .val (.int (0 : Int32))] [(.int (1 : Int32))])) t_
          refine XS.istore X7.here hx rfl (hb hby at_153) rfl (l' := #[.val (.int a), .val (.int b), .val (.int (own_m a)), .val (.int (own_m b)), .val (.ref b1), .val (.ref y3), .val (.ref y6), .val (.ref y3), .val (.int (1 : Int32)), .val (.int (1 : Int32)), .val (.int (0 : Int32))]) rfl ?_
          show Steps p_.tables e_ below (T7.setTop (mkF m_ 155 #[.val (.int a), .val (.int b), .val (.int (own_m a)), .val (.int (own_m b)), .val (.ref b1), .val (.ref y3), .val (.ref y6), .val (.ref y3), .val (.int (1 : Int32)), .val (.int (1 : Int32)), .val (.int (0 : Int32))] [])) t_
          refine XS.iload X7.here hx rfl (hb hby at_155) rfl ?_
          show Steps p_.tables e_ below (T7.setTop (mkF m_ 157 #[.val (.int a), .val (.int b), .val (.int (own_m a)), .val (.int (own_m b)), .val (.ref b1), .val (.ref y3), .val (.ref y6), .val (.ref y3), .val (.int (1 : Int32)), .val (.int (1 : Int32)), .val (.int (0 : Int32))] [(.int (1 : Int32))])) t_
          refine XS.ifNo X7.here hx rfl (hb hby at_157) rfl ((if0 _ _).trans (feq (by decide : ¬ ((1 : Int32) = (0 : Int32)))).1) ?_
          show Steps p_.tables e_ below (T7.setTop (mkF m_ 160 #[.val (.int a), .val (.int b), .val (.int (own_m a)), .val (.int (own_m b)), .val (.ref b1), .val (.ref y3), .val (.ref y6), .val (.ref y3), .val (.int (1 : Int32)), .val (.int (1 : Int32)), .val (.int (0 : Int32))] [])) t_
          refine XS.iload X7.here hx rfl (hb hby at_160) rfl ?_
          show Steps p_.tables e_ below (T7.setTop (mkF m_ 162 #[.val (.int a), .val (.int b), .val (.int (own_m a)), .val (.int (own_m b)), .val (.ref b1), .val (.ref y3), .val (.ref y6), .val (.ref y3), .val (.int (1 : Int32)), .val (.int (1 : Int32)), .val (.int (0 : Int32))] [(.int (0 : Int32))])) t_
          refine XS.ifYes X7.here hx rfl (pc0 := 162) (pc' := 175) rfl (hb hby at_162) rfl ((if0 _ _).trans (teq (by decide : (0 : Int32) = (0 : Int32))).1) (by decide) (by decide) ?_
          show Steps p_.tables e_ below (T7.setTop (mkF m_ 175 #[.val (.int a), .val (.int b), .val (.int (own_m a)), .val (.int (own_m b)), .val (.ref b1), .val (.ref y3), .val (.ref y6), .val (.ref y3), .val (.int (1 : Int32)), .val (.int (1 : Int32)), .val (.int (0 : Int32))] [])) t_
          refine XS.aload X7.here hx rfl (hb hby at_175) rfl rfl ?_
          show Steps p_.tables e_ below (T7.setTop (mkF m_ 177 #[.val (.int a), .val (.int b), .val (.int (own_m a)), .val (.int (own_m b)), .val (.ref b1), .val (.ref y3), .val (.ref y6), .val (.ref y3), .val (.int (1 : Int32)), .val (.int (1 : Int32)), .val (.int (0 : Int32))] [(.ref y6)])) t_
          refine XS.aload X7.here hx rfl (hb hby at_177) rfl rfl ?_
          show Steps p_.tables e_ below (T7.setTop (mkF m_ 179 #[.val (.int a), .val (.int b), .val (.int (own_m a)), .val (.int (own_m b)), .val (.ref b1), .val (.ref y3), .val (.ref y6), .val (.ref y3), .val (.int (1 : Int32)), .val (.int (1 : Int32)), .val (.int (0 : Int32))] [(.ref y3), (.ref y6)])) t_
          refine Jvm.RoadKit.acmp (g := (mkF m_ 179 #[.val (.int a), .val (.int b), .val (.int (own_m a)), .val (.int (own_m b)), .val (.ref b1), .val (.ref y3), .val (.ref y6), .val (.ref y3), .val (.int (1 : Int32)), .val (.int (1 : Int32)), .val (.int (0 : Int32))] [(.ref y3), (.ref y6)])) X7 hx rfl rfl rfl (pc0 := 179) (pc' := 182) (same := false) rfl (hb hby at_179) rfl (decide_eq_false fun q => (Ne.symm ne_y3_y6) (Value.ref.inj q)) (by decide) (by decide) ?_
          show Steps p_.tables e_ below (T7.setTop (mkF m_ 182 #[.val (.int a), .val (.int b), .val (.int (own_m a)), .val (.int (own_m b)), .val (.ref b1), .val (.ref y3), .val (.ref y6), .val (.ref y3), .val (.int (1 : Int32)), .val (.int (1 : Int32)), .val (.int (0 : Int32))] [])) t_
          refine XS.iconst X7.here hx rfl (hb hby at_182) ?_
          show Steps p_.tables e_ below (T7.setTop (mkF m_ 183 #[.val (.int a), .val (.int b), .val (.int (own_m a)), .val (.int (own_m b)), .val (.ref b1), .val (.ref y3), .val (.ref y6), .val (.ref y3), .val (.int (1 : Int32)), .val (.int (1 : Int32)), .val (.int (0 : Int32))] [(.int (1 : Int32))])) t_
          refine XS.goto X7.here hx rfl (pc0 := 183) (pc' := 187) rfl (hb hby at_183) (by decide) (by decide) ?_
          show Steps p_.tables e_ below (T7.setTop (mkF m_ 187 #[.val (.int a), .val (.int b), .val (.int (own_m a)), .val (.int (own_m b)), .val (.ref b1), .val (.ref y3), .val (.ref y6), .val (.ref y3), .val (.int (1 : Int32)), .val (.int (1 : Int32)), .val (.int (0 : Int32))] [(.int (1 : Int32))])) t_
          refine XS.istore X7.here hx rfl (hb hby at_187) rfl (l' := #[.val (.int a), .val (.int b), .val (.int (own_m a)), .val (.int (own_m b)), .val (.ref b1), .val (.ref y3), .val (.ref y6), .val (.ref y3), .val (.int (1 : Int32)), .val (.int (1 : Int32)), .val (.int (0 : Int32))]) rfl ?_
          show Steps p_.tables e_ below (T7.setTop (mkF m_ 189 #[.val (.int a), .val (.int b), .val (.int (own_m a)), .val (.int (own_m b)), .val (.ref b1), .val (.ref y3), .val (.ref y6), .val (.ref y3), .val (.int (1 : Int32)), .val (.int (1 : Int32)), .val (.int (0 : Int32))] [])) t_
          refine XS.iload X7.here hx rfl (hb hby at_189) rfl ?_
          show Steps p_.tables e_ below (T7.setTop (mkF m_ 191 #[.val (.int a), .val (.int b), .val (.int (own_m a)), .val (.int (own_m b)), .val (.ref b1), .val (.ref y3), .val (.ref y6), .val (.ref y3), .val (.int (1 : Int32)), .val (.int (1 : Int32)), .val (.int (0 : Int32))] [(.int (1 : Int32))])) t_
          refine XS.ifNo X7.here hx rfl (hb hby at_191) rfl ((if0 _ _).trans (feq (by decide : ¬ ((1 : Int32) = (0 : Int32)))).1) ?_
          show Steps p_.tables e_ below (T7.setTop (mkF m_ 194 #[.val (.int a), .val (.int b), .val (.int (own_m a)), .val (.int (own_m b)), .val (.ref b1), .val (.ref y3), .val (.ref y6), .val (.ref y3), .val (.int (1 : Int32)), .val (.int (1 : Int32)), .val (.int (0 : Int32))] [])) t_
          refine XS.iload X7.here hx rfl (hb hby at_194) rfl ?_
          show Steps p_.tables e_ below (T7.setTop (mkF m_ 196 #[.val (.int a), .val (.int b), .val (.int (own_m a)), .val (.int (own_m b)), .val (.ref b1), .val (.ref y3), .val (.ref y6), .val (.ref y3), .val (.int (1 : Int32)), .val (.int (1 : Int32)), .val (.int (0 : Int32))] [(.int (0 : Int32))])) t_
          refine XS.ifYes X7.here hx rfl (pc0 := 196) (pc' := 209) rfl (hb hby at_196) rfl ((if0 _ _).trans (teq (by decide : (0 : Int32) = (0 : Int32))).1) (by decide) (by decide) ?_
          show Steps p_.tables e_ below (T7.setTop (mkF m_ 209 #[.val (.int a), .val (.int b), .val (.int (own_m a)), .val (.int (own_m b)), .val (.ref b1), .val (.ref y3), .val (.ref y6), .val (.ref y3), .val (.int (1 : Int32)), .val (.int (1 : Int32)), .val (.int (0 : Int32))] [])) t_
          refine XS.aload X7.here hx rfl (hb hby at_209) rfl rfl ?_
          show Steps p_.tables e_ below (T7.setTop (mkF m_ 211 #[.val (.int a), .val (.int b), .val (.int (own_m a)), .val (.int (own_m b)), .val (.ref b1), .val (.ref y3), .val (.ref y6), .val (.ref y3), .val (.int (1 : Int32)), .val (.int (1 : Int32)), .val (.int (0 : Int32))] [(.ref y3)])) t_
          refine XS.aload X7.here hx rfl (hb hby at_211) rfl rfl ?_
          show Steps p_.tables e_ below (T7.setTop (mkF m_ 213 #[.val (.int a), .val (.int b), .val (.int (own_m a)), .val (.int (own_m b)), .val (.ref b1), .val (.ref y3), .val (.ref y6), .val (.ref y3), .val (.int (1 : Int32)), .val (.int (1 : Int32)), .val (.int (0 : Int32))] [(.ref y6), (.ref y3)])) t_
          refine Jvm.RoadKit.acmp (g := (mkF m_ 213 #[.val (.int a), .val (.int b), .val (.int (own_m a)), .val (.int (own_m b)), .val (.ref b1), .val (.ref y3), .val (.ref y6), .val (.ref y3), .val (.int (1 : Int32)), .val (.int (1 : Int32)), .val (.int (0 : Int32))] [(.ref y6), (.ref y3)])) X7 hx rfl rfl rfl (pc0 := 213) (pc' := 216) (same := false) rfl (hb hby at_213) rfl (decide_eq_false fun q => ne_y3_y6 (Value.ref.inj q)) (by decide) (by decide) ?_
          show Steps p_.tables e_ below (T7.setTop (mkF m_ 216 #[.val (.int a), .val (.int b), .val (.int (own_m a)), .val (.int (own_m b)), .val (.ref b1), .val (.ref y3), .val (.ref y6), .val (.ref y3), .val (.int (1 : Int32)), .val (.int (1 : Int32)), .val (.int (0 : Int32))] [])) t_
          refine XS.iconst X7.here hx rfl (hb hby at_216) ?_
          show Steps p_.tables e_ below (T7.setTop (mkF m_ 217 #[.val (.int a), .val (.int b), .val (.int (own_m a)), .val (.int (own_m b)), .val (.ref b1), .val (.ref y3), .val (.ref y6), .val (.ref y3), .val (.int (1 : Int32)), .val (.int (1 : Int32)), .val (.int (0 : Int32))] [(.int (1 : Int32))])) t_
          refine XS.goto X7.here hx rfl (pc0 := 217) (pc' := 221) rfl (hb hby at_217) (by decide) (by decide) ?_
          show Steps p_.tables e_ below (T7.setTop (mkF m_ 221 #[.val (.int a), .val (.int b), .val (.int (own_m a)), .val (.int (own_m b)), .val (.ref b1), .val (.ref y3), .val (.ref y6), .val (.ref y3), .val (.int (1 : Int32)), .val (.int (1 : Int32)), .val (.int (0 : Int32))] [(.int (1 : Int32))])) t_
          refine XS.istore X7.here hx rfl (hb hby at_221) rfl (l' := #[.val (.int a), .val (.int b), .val (.int (own_m a)), .val (.int (own_m b)), .val (.ref b1), .val (.ref y3), .val (.ref y6), .val (.ref y3), .val (.int (1 : Int32)), .val (.int (1 : Int32)), .val (.int (0 : Int32))]) rfl ?_
          show Steps p_.tables e_ below (T7.setTop (mkF m_ 223 #[.val (.int a), .val (.int b), .val (.int (own_m a)), .val (.int (own_m b)), .val (.ref b1), .val (.ref y3), .val (.ref y6), .val (.ref y3), .val (.int (1 : Int32)), .val (.int (1 : Int32)), .val (.int (0 : Int32))] [])) t_
          refine XS.iload X7.here hx rfl (hb hby at_223) rfl ?_
          show Steps p_.tables e_ below (T7.setTop (mkF m_ 225 #[.val (.int a), .val (.int b), .val (.int (own_m a)), .val (.int (own_m b)), .val (.ref b1), .val (.ref y3), .val (.ref y6), .val (.ref y3), .val (.int (1 : Int32)), .val (.int (1 : Int32)), .val (.int (0 : Int32))] [(.int (1 : Int32))])) t_
          exact k_
        refine own_retN X7 hx hlk (t := .boolean) hret (by simp) (hb hby at_225) (by decide) (by decide) ?_
        exact ⟨rfl, N7⟩
    · refine own_callV X3 hx hZ (y := (⟨"com/example/wiry_producer/wiryproducer/command/ReusedArrays", "of", "(I)[B"⟩ : MethodName)) (z := (⟨"com/example/wiry_producer/wiryproducer/command/ReusedArrays", "of", "(I)[B"⟩ : MethodName)) hown (hw _ (List.mem_of_getElem? (i := 13) rfl)) (hw _ (List.mem_of_getElem? (i := 14) rfl)) (notFace_of_selects (args := #[]) (mvT hZ (hw _ (List.mem_of_getElem? (i := 16) rfl)))) (hw _ (List.mem_of_getElem? (i := 16) rfl)) (hw _ (List.mem_of_getElem? (i := 15) rfl)) (hw _ (List.mem_of_getElem? (i := 2) rfl)) (hw _ (List.mem_of_getElem? (i := 17) rfl)) (by decide) b1 [(.int (own_m b))] [] E_b1 (rm3A l Z a0 hw b1 (own_m b) (own_mn b) T3.heap n0 Z0 (own_m3 b) rfl (own_m1 b) (own_m4 b) h2) 0 (by decide) (by decide) rfl (by rw [hml]; rfl) (lenOf own_pd1 rfl) rfl (Nat.le_of_eq rfl) (hb hby at_32) (by decide) (by decide) ?_
      intro v8 T8 L8 X8 q8
      obtain ⟨y8, kb8, rfl, g_y8, sz8, N8q, K8, Aq8⟩ := q8
      have N8 := Fr.app N3 N8q
      have ne_b1_y8 : b1 ≠ y8 := Nat.ne_of_lt (Nat.lt_of_lt_of_le E_b1.lt sz8)
      have ne_y3_y8 : y3 ≠ y8 := Nat.ne_of_lt (Nat.lt_of_lt_of_le A_y3.lt sz8)
      have ne_tt_y8 : tt ≠ y8 := Nat.ne_of_lt (Nat.lt_of_lt_of_le A_tt.lt sz8)
      replace E_b1 := E_b1.keep K8
      replace F_byLength_b1 := F_byLength_b1.keep K8 nin0
      replace A_y3 := A_y3.keep K8 nin0
      replace A_tt := A_tt.keep K8 nin0
      replace Z0 : n0 ≤ T8.heap.size := Nat.le_trans Z0 K8.1
      have A_y8 := Aq8
      show own_Out p_ e_ below s_ _ _ _ T8 (mkF m_ 35 #[.val (.int a), .val (.int b), .val (.int (own_m a)), .val (.int (own_m b)), .val (.ref b1), .val (.ref y3), .unset, .unset, .unset, .unset, .unset] [(.ref y8)])
      refine own_st T8 (mkF m_ 40 #[.val (.int a), .val (.int b), .val (.int (own_m a)), .val (.int (own_m b)), .val (.ref b1), .val (.ref y3), .val (.ref y8), .unset, .unset, .unset, .unset] [(.int (own_m a)), (.ref b1)]) (fun t_ k_ => ?_) ?_
      · refine XS.astore X8.here hx rfl (hb hby at_35) rfl rfl (l' := #[.val (.int a), .val (.int b), .val (.int (own_m a)), .val (.int (own_m b)), .val (.ref b1), .val (.ref y3), .val (.ref y8), .unset, .unset, .unset, .unset]) rfl ?_
        show Steps p_.tables e_ below (T8.setTop (mkF m_ 37 #[.val (.int a), .val (.int b), .val (.int (own_m a)), .val (.int (own_m b)), .val (.ref b1), .val (.ref y3), .val (.ref y8), .unset, .unset, .unset, .unset] [])) t_
        refine XS.aload X8.here hx rfl (hb hby at_37) rfl rfl ?_
        show Steps p_.tables e_ below (T8.setTop (mkF m_ 39 #[.val (.int a), .val (.int b), .val (.int (own_m a)), .val (.int (own_m b)), .val (.ref b1), .val (.ref y3), .val (.ref y8), .unset, .unset, .unset, .unset] [(.ref b1)])) t_
        refine XS.iloadN X8.here hx rfl (hb hby at_39) rfl ?_
        show Steps p_.tables e_ below (T8.setTop (mkF m_ 40 #[.val (.int a), .val (.int b), .val (.int (own_m a)), .val (.int (own_m b)), .val (.ref b1), .val (.ref y3), .val (.ref y8), .unset, .unset, .unset, .unset] [(.int (own_m a)), (.ref b1)])) t_
        exact k_
      refine own_callV X8 hx hZ (y := (⟨"com/example/wiry_producer/wiryproducer/command/ReusedArrays", "of", "(I)[B"⟩ : MethodName)) (z := (⟨"com/example/wiry_producer/wiryproducer/command/ReusedArrays", "of", "(I)[B"⟩ : MethodName)) hown (hw _ (List.mem_of_getElem? (i := 13) rfl)) (hw _ (List.mem_of_getElem? (i := 14) rfl)) (notFace_of_selects (args := #[]) (mvT hZ (hw _ (List.mem_of_getElem? (i := 16) rfl)))) (hw _ (List.mem_of_getElem? (i := 16) rfl)) (hw _ (List.mem_of_getElem? (i := 15) rfl)) (hw _ (List.mem_of_getElem? (i := 2) rfl)) (hw _ (List.mem_of_getElem? (i := 17) rfl)) (by decide) b1 [(.int (own_m a))] [] E_b1 (rm3C l Z a0 hw b1 (own_m a) (own_mn a) tt kt (fun x => (if x = own_mn a then Value.ref y3 else Value.null)) y3 T8.heap n0 Z0 (own_m1 a) F_byLength_b1 A_tt (own_m5 h1) h1 (if_pos rfl)) 0 (by decide) (by decide) rfl (by rw [hml]; rfl) (lenOf own_pd1 rfl) rfl (Nat.le_of_eq rfl) (hb hby at_40) (by decide) (by decide) ?_
      intro v9 T9 L9 X9 q9
      obtain ⟨rfl, N9q, e9⟩ := q9
      have N9 := Fr.app N8 N9q
      show own_Out p_ e_ below s_ _ _ _ T9 (mkF m_ 43 #[.val (.int a), .val (.int b), .val (.int (own_m a)), .val (.int (own_m b)), .val (.ref b1), .val (.ref y3), .val (.ref y8), .unset, .unset, .unset, .unset] [(.ref y3)])
      refine own_st T9 (mkF m_ 225 #[.val (.int a), .val (.int b), .val (.int (own_m a)), .val (.int (own_m b)), .val (.ref b1), .val (.ref y3), .val (.ref y8), .val (.ref y3), .val (.int (1 : Int32)), .val (.int (1 : Int32)), .val (.int (0 : Int32))] [(.int (1 : Int32))]) (fun t_ k_ => ?_) ?_
      · refine XS.astore X9.here hx rfl (hb hby at_43) rfl rfl (l' := #[.val (.int a), .val (.int b), .val (.int (own_m a)), .val (.int (own_m b)), .val (.ref b1), .val (.ref y3), .val (.ref y8), .val (.ref y3), .unset, .unset, .unset]) rfl ?_
        show Steps p_.tables e_ below (T9.setTop (mkF m_ 45 #[.val (.int a), .val (.int b), .val (.int (own_m a)), .val (.int (own_m b)), .val (.ref b1), .val (.ref y3), .val (.ref y8), .val (.ref y3), .unset, .unset, .unset] [])) t_
        refine XS.aload X9.here hx rfl (hb hby at_45) rfl rfl ?_
        show Steps p_.tables e_ below (T9.setTop (mkF m_ 47 #[.val (.int a), .val (.int b), .val (.int (own_m a)), .val (.int (own_m b)), .val (.ref b1), .val (.ref y3), .val (.ref y8), .val (.ref y3), .unset, .unset, .unset] [(.ref y3)])) t_
        refine XS.ifnullNo X9.here hx rfl (hb hby at_47) rfl ?_
        show Steps p_.tables e_ below (T9.setTop (mkF m_ 50 #[.val (.int a), .val (.int b), .val (.int (own_m a)), .val (.int (own_m b)), .val (.ref b1), .val (.ref y3), .val (.ref y8), .val (.ref y3), .unset, .unset, .unset] [])) t_
        refine XS.aload X9.here hx rfl (hb hby at_50) rfl rfl ?_
        show Steps p_.tables e_ below (T9.setTop (mkF m_ 52 #[.val (.int a), .val (.int b), .val (.int (own_m a)), .val (.int (own_m b)), .val (.ref b1), .val (.ref y3), .val (.ref y8), .val (.ref y3), .unset, .unset, .unset] [(.ref y8)])) t_
        refine XS.ifnullNo X9.here hx rfl (hb hby at_52) rfl ?_
        show Steps p_.tables e_ below (T9.setTop (mkF m_ 55 #[.val (.int a), .val (.int b), .val (.int (own_m a)), .val (.int (own_m b)), .val (.ref b1), .val (.ref y3), .val (.ref y8), .val (.ref y3), .unset, .unset, .unset] [])) t_
        refine XS.aload X9.here hx rfl (hb hby at_55) rfl rfl ?_
        show Steps p_.tables e_ below (T9.setTop (mkF m_ 57 #[.val (.int a), .val (.int b), .val (.int (own_m a)), .val (.int (own_m b)), .val (.ref b1), .val (.ref y3), .val (.ref y8), .val (.ref y3), .unset, .unset, .unset] [(.ref y3)])) t_
        refine XS.ifnonnullYes X9.here hx rfl (pc0 := 57) (pc' := 62) rfl (hb hby at_57) rfl (by decide) (by decide) ?_
        show Steps p_.tables e_ below (T9.setTop (mkF m_ 62 #[.val (.int a), .val (.int b), .val (.int (own_m a)), .val (.int (own_m b)), .val (.ref b1), .val (.ref y3), .val (.ref y8), .val (.ref y3), .unset, .unset, .unset] [])) t_
        refine XS.aload X9.here hx rfl (hb hby at_62) rfl rfl ?_
        show Steps p_.tables e_ below (T9.setTop (mkF m_ 64 #[.val (.int a), .val (.int b), .val (.int (own_m a)), .val (.int (own_m b)), .val (.ref b1), .val (.ref y3), .val (.ref y8), .val (.ref y3), .unset, .unset, .unset] [(.ref y3)])) t_
        refine own_len X9 hx hZ e9 A_y3 (hb hby at_64) (own_m a) (own_m1 a) _ ?_
        show Steps p_.tables e_ below (T9.setTop (mkF m_ 65 #[.val (.int a), .val (.int b), .val (.int (own_m a)), .val (.int (own_m b)), .val (.ref b1), .val (.ref y3), .val (.ref y8), .val (.ref y3), .unset, .unset, .unset] [(.int (own_m a))])) t_
        refine XS.iloadN X9.here hx rfl (hb hby at_65) rfl ?_
        show Steps p_.tables e_ below (T9.setTop (mkF m_ 66 #[.val (.int a), .val (.int b), .val (.int (own_m a)), .val (.int (own_m b)), .val (.ref b1), .val (.ref y3), .val (.ref y8), .val (.ref y3), .unset, .unset, .unset] [(.int (own_m a)), (.int (own_m a))])) t_
        refine XS.icmpNo X9.here hx rfl (hb hby at_66) rfl (teq (rfl : (own_m a) = (own_m a))).2 ?_
        show Steps p_.tables e_ below (T9.setTop (mkF m_ 69 #[.val (.int a), .val (.int b), .val (.int (own_m a)), .val (.int (own_m b)), .val (.ref b1), .val (.ref y3), .val (.ref y8), .val (.ref y3), .unset, .unset, .unset] [])) t_
        refine XS.aload X9.here hx rfl (hb hby at_69) rfl rfl ?_
        show Steps p_.tables e_ below (T9.setTop (mkF m_ 71 #[.val (.int a), .val (.int b), .val (.int (own_m a)), .val (.int (own_m b)), .val (.ref b1), .val (.ref y3), .val (.ref y8), .val (.ref y3), .unset, .unset, .unset] [(.ref y8)])) t_
        refine own_len X9 hx hZ e9 A_y8 (hb hby at_71) (own_m b) (own_m1 b) _ ?_
        show Steps p_.tables e_ below (T9.setTop (mkF m_ 72 #[.val (.int a), .val (.int b), .val (.int (own_m a)), .val (.int (own_m b)), .val (.ref b1), .val (.ref y3), .val (.ref y8), .val (.ref y3), .unset, .unset, .unset] [(.int (own_m b))])) t_
        refine XS.iloadN X9.here hx rfl (hb hby at_72) rfl ?_
        show Steps p_.tables e_ below (T9.setTop (mkF m_ 73 #[.val (.int a), .val (.int b), .val (.int (own_m a)), .val (.int (own_m b)), .val (.ref b1), .val (.ref y3), .val (.ref y8), .val (.ref y3), .unset, .unset, .unset] [(.int (own_m b)), (.int (own_m b))])) t_
        refine XS.icmpNo X9.here hx rfl (hb hby at_73) rfl (teq (rfl : (own_m b) = (own_m b))).2 ?_
        show Steps p_.tables e_ below (T9.setTop (mkF m_ 76 #[.val (.int a), .val (.int b), .val (.int (own_m a)), .val (.int (own_m b)), .val (.ref b1), .val (.ref y3), .val (.ref y8), .val (.ref y3), .unset, .unset, .unset] [])) t_
        refine XS.aload X9.here hx rfl (hb hby at_76) rfl rfl ?_
        show Steps p_.tables e_ below (T9.setTop (mkF m_ 78 #[.val (.int a), .val (.int b), .val (.int (own_m a)), .val (.int (own_m b)), .val (.ref b1), .val (.ref y3), .val (.ref y8), .val (.ref y3), .unset, .unset, .unset] [(.ref y3)])) t_
        refine own_len X9 hx hZ e9 A_y3 (hb hby at_78) (own_m a) (own_m1 a) _ ?_
        show Steps p_.tables e_ below (T9.setTop (mkF m_ 79 #[.val (.int a), .val (.int b), .val (.int (own_m a)), .val (.int (own_m b)), .val (.ref b1), .val (.ref y3), .val (.ref y8), .val (.ref y3), .unset, .unset, .unset] [(.int (own_m a))])) t_
        refine XS.iloadN X9.here hx rfl (hb hby at_79) rfl ?_
        show Steps p_.tables e_ below (T9.setTop (mkF m_ 80 #[.val (.int a), .val (.int b), .val (.int (own_m a)), .val (.int (own_m b)), .val (.ref b1), .val (.ref y3), .val (.ref y8), .val (.ref y3), .unset, .unset, .unset] [(.int (own_m a)), (.int (own_m a))])) t_
        refine XS.icmpNo X9.here hx rfl (hb hby at_80) rfl (teq (rfl : (own_m a) = (own_m a))).2 ?_
        show Steps p_.tables e_ below (T9.setTop (mkF m_ 83 #[.val (.int a), .val (.int b), .val (.int (own_m a)), .val (.int (own_m b)), .val (.ref b1), .val (.ref y3), .val (.ref y8), .val (.ref y3), .unset, .unset, .unset] [])) t_
        refine XS.iconst X9.here hx rfl (hb hby at_83) ?_
        show Steps p_.tables e_ below (T9.setTop (mkF m_ 84 #[.val (.int a), .val (.int b), .val (.int (own_m a)), .val (.int (own_m b)), .val (.ref b1), .val (.ref y3), .val (.ref y8), .val (.ref y3), .unset, .unset, .unset] [(.int (1 : Int32))])) t_
        refine XS.goto X9.here hx rfl (pc0 := 84) (pc' := 88) rfl (hb hby at_84) (by decide) (by decide) ?_
        show Steps p_.tables e_ below (T9.setTop (mkF m_ 88 #[.val (.int a), .val (.int b), .val (.int (own_m a)), .val (.int (own_m b)), .val (.ref b1), .val (.ref y3), .val (.ref y8), .val (.ref y3), .unset, .unset, .unset] [(.int (1 : Int32))])) t_
        refine XS.istore X9.here hx rfl (hb hby at_88) rfl (l' := #[.val (.int a), .val (.int b), .val (.int (own_m a)), .val (.int (own_m b)), .val (.ref b1), .val (.ref y3), .val (.ref y8), .val (.ref y3), .val (.int (1 : Int32)), .unset, .unset]) rfl ?_
        show Steps p_.tables e_ below (T9.setTop (mkF m_ 90 #[.val (.int a), .val (.int b), .val (.int (own_m a)), .val (.int (own_m b)), .val (.ref b1), .val (.ref y3), .val (.ref y8), .val (.ref y3), .val (.int (1 : Int32)), .unset, .unset] [])) t_
        refine XS.iloadN X9.here hx rfl (hb hby at_90) rfl ?_
        show Steps p_.tables e_ below (T9.setTop (mkF m_ 91 #[.val (.int a), .val (.int b), .val (.int (own_m a)), .val (.int (own_m b)), .val (.ref b1), .val (.ref y3), .val (.ref y8), .val (.ref y3), .val (.int (1 : Int32)), .unset, .unset] [(.int (own_m a))])) t_
        refine XS.sipush X9.here hx rfl (hb hby at_91) ?_
        show Steps p_.tables e_ below (T9.setTop (mkF m_ 94 #[.val (.int a), .val (.int b), .val (.int (own_m a)), .val (.int (own_m b)), .val (.ref b1), .val (.ref y3), .val (.ref y8), .val (.ref y3), .val (.int (1 : Int32)), .unset, .unset] [(.int (1024 : Int32)), (.int (own_m a))])) t_
        refine XS.icmpNo X9.here hx rfl (hb hby at_94) rfl (tlt (h1 : (own_m a) < (1024 : Int32))).2.1 ?_
        show Steps p_.tables e_ below (T9.setTop (mkF m_ 97 #[.val (.int a), .val (.int b), .val (.int (own_m a)), .val (.int (own_m b)), .val (.ref b1), .val (.ref y3), .val (.ref y8), .val (.ref y3), .val (.int (1 : Int32)), .unset, .unset] [])) t_
        refine XS.iconst X9.here hx rfl (hb hby at_97) ?_
        show Steps p_.tables e_ below (T9.setTop (mkF m_ 98 #[.val (.int a), .val (.int b), .val (.int (own_m a)), .val (.int (own_m b)), .val (.ref b1), .val (.ref y3), .val (.ref y8), .val (.ref y3), .val (.int (1 : Int32)), .unset, .unset] [(.int (1 : Int32))])) t_
        refine XS.goto X9.here hx rfl (pc0 := 98) (pc' := 102) rfl (hb hby at_98) (by decide) (by decide) ?_
        show Steps p_.tables e_ below (T9.setTop (mkF m_ 102 #[.val (.int a), .val (.int b), .val (.int (own_m a)), .val (.int (own_m b)), .val (.ref b1), .val (.ref y3), .val (.ref y8), .val (.ref y3), .val (.int (1 : Int32)), .unset, .unset] [(.int (1 : Int32))])) t_
        refine XS.istore X9.here hx rfl (hb hby at_102) rfl (l' := #[.val (.int a), .val (.int b), .val (.int (own_m a)), .val (.int (own_m b)), .val (.ref b1), .val (.ref y3), .val (.ref y8), .val (.ref y3), .val (.int (1 : Int32)), .val (.int (1 : Int32)), .unset]) rfl ?_
        show Steps p_.tables e_ below (T9.setTop (mkF m_ 104 #[.val (.int a), .val (.int b), .val (.int (own_m a)), .val (.int (own_m b)), .val (.ref b1), .val (.ref y3), .val (.ref y8), .val (.ref y3), .val (.int (1 : Int32)), .val (.int (1 : Int32)), .unset] [])) t_
        refine XS.iloadN X9.here hx rfl (hb hby at_104) rfl ?_
        show Steps p_.tables e_ below (T9.setTop (mkF m_ 105 #[.val (.int a), .val (.int b), .val (.int (own_m a)), .val (.int (own_m b)), .val (.ref b1), .val (.ref y3), .val (.ref y8), .val (.ref y3), .val (.int (1 : Int32)), .val (.int (1 : Int32)), .unset] [(.int (own_m a))])) t_
        refine XS.iloadN X9.here hx rfl (hb hby at_105) rfl ?_
        show Steps p_.tables e_ below (T9.setTop (mkF m_ 106 #[.val (.int a), .val (.int b), .val (.int (own_m a)), .val (.int (own_m b)), .val (.ref b1), .val (.ref y3), .val (.ref y8), .val (.ref y3), .val (.int (1 : Int32)), .val (.int (1 : Int32)), .unset] [(.int (own_m b)), (.int (own_m a))])) t_
        refine XS.icmpYes X9.here hx rfl (pc0 := 106) (pc' := 118) rfl (hb hby at_106) rfl (feq (own_m9 h1 h2 : ¬ ((own_m a) = (own_m b)))).2 (by decide) (by decide) ?_
        show Steps p_.tables e_ below (T9.setTop (mkF m_ 118 #[.val (.int a), .val (.int b), .val (.int (own_m a)), .val (.int (own_m b)), .val (.ref b1), .val (.ref y3), .val (.ref y8), .val (.ref y3), .val (.int (1 : Int32)), .val (.int (1 : Int32)), .unset] [])) t_
        refine XS.iconst X9.here hx rfl (hb hby at_118) ?_
        show Steps p_.tables e_ below (T9.setTop (mkF m_ 119 #[.val (.int a), .val (.int b), .val (.int (own_m a)), .val (.int (own_m b)), .val (.ref b1), .val (.ref y3), .val (.ref y8), .val (.ref y3), .val (.int (1 : Int32)), .val (.int (1 : Int32)), .unset] [(.int (0 : Int32))])) t_
        refine XS.istore X9.here hx rfl (hb hby at_119) rfl (l' := #[.val (.int a), .val (.int b), .val (.int (own_m a)), .val (.int (own_m b)), .val (.ref b1), .val (.ref y3), .val (.ref y8), .val (.ref y3), .val (.int (1 : Int32)), .val (.int (1 : Int32)), .val (.int (0 : Int32))]) rfl ?_
        show Steps p_.tables e_ below (T9.setTop (mkF m_ 121 #[.val (.int a), .val (.int b), .val (.int (own_m a)), .val (.int (own_m b)), .val (.ref b1), .val (.ref y3), .val (.ref y8), .val (.ref y3), .val (.int (1 : Int32)), .val (.int (1 : Int32)), .val (.int (0 : Int32))] [])) t_
        refine XS.iload X9.here hx rfl (hb hby at_121) rfl ?_
        show Steps p_.tables e_ below (T9.setTop (mkF m_ 123 #[.val (.int a), .val (.int b), .val (.int (own_m a)), .val (.int (own_m b)), .val (.ref b1), .val (.ref y3), .val (.ref y8), .val (.ref y3), .val (.int (1 : Int32)), .val (.int (1 : Int32)), .val (.int (0 : Int32))] [(.int (1 : Int32))])) t_
        refine XS.ifNo X9.here hx rfl (hb hby at_123) rfl ((if0 _ _).trans (feq (by decide : ¬ ((1 : Int32) = (0 : Int32)))).1) ?_
        show Steps p_.tables e_ below (T9.setTop (mkF m_ 126 #[.val (.int a), .val (.int b), .val (.int (own_m a)), .val (.int (own_m b)), .val (.ref b1), .val (.ref y3), .val (.ref y8), .val (.ref y3), .val (.int (1 : Int32)), .val (.int (1 : Int32)), .val (.int (0 : Int32))] [])) t_
        refine XS.iload X9.here hx rfl (hb hby at_126) rfl ?_
        show Steps p_.tables e_ below (T9.setTop (mkF m_ 128 #[.val (.int a), .val (.int b), .val (.int (own_m a)), .val (.int (own_m b)), .val (.ref b1), .val (.ref y3), .val (.ref y8), .val (.ref y3), .val (.int (1 : Int32)), .val (.int (1 : Int32)), .val (.int (0 : Int32))] [(.int (1 : Int32))])) t_
        refine XS.ifNo X9.here hx rfl (hb hby at_128) rfl ((if0 _ _).trans (feq (by decide : ¬ ((1 : Int32) = (0 : Int32)))).1) ?_
        show Steps p_.tables e_ below (T9.setTop (mkF m_ 131 #[.val (.int a), .val (.int b), .val (.int (own_m a)), .val (.int (own_m b)), .val (.ref b1), .val (.ref y3), .val (.ref y8), .val (.ref y3), .val (.int (1 : Int32)), .val (.int (1 : Int32)), .val (.int (0 : Int32))] [])) t_
        refine XS.aload X9.here hx rfl (hb hby at_131) rfl rfl ?_
        show Steps p_.tables e_ below (T9.setTop (mkF m_ 133 #[.val (.int a), .val (.int b), .val (.int (own_m a)), .val (.int (own_m b)), .val (.ref b1), .val (.ref y3), .val (.ref y8), .val (.ref y3), .val (.int (1 : Int32)), .val (.int (1 : Int32)), .val (.int (0 : Int32))] [(.ref y3)])) t_
        refine XS.aload X9.here hx rfl (hb hby at_133) rfl rfl ?_
        show Steps p_.tables e_ below (T9.setTop (mkF m_ 135 #[.val (.int a), .val (.int b), .val (.int (own_m a)), .val (.int (own_m b)), .val (.ref b1), .val (.ref y3), .val (.ref y8), .val (.ref y3), .val (.int (1 : Int32)), .val (.int (1 : Int32)), .val (.int (0 : Int32))] [(.ref y3), (.ref y3)])) t_
        refine Jvm.RoadKit.acmp (g := (mkF m_ 135 #[.val (.int a), .val (.int b), .val (.int (own_m a)), .val (.int (own_m b)), .val (.ref b1), .val (.ref y3), .val (.ref y8), .val (.ref y3), .val (.int (1 : Int32)), .val (.int (1 : Int32)), .val (.int (0 : Int32))] [(.ref y3), (.ref y3)])) X9 hx rfl rfl rfl (pc0 := 135) (pc' := 138) (same := true) rfl (hb hby at_135) rfl (decide_eq_true rfl) (by decide) (by decide) ?_
        show Steps p_.tables e_ below (T9.setTop (mkF m_ 138 #[.val (.int a), .val (.int b), .val (.int (own_m a)), .val (.int (own_m b)), .val (.ref b1), .val (.ref y3), .val (.ref y8), .val (.ref y3), .val (.int (1 : Int32)), .val (.int (1 : Int32)), .val (.int (0 : Int32))] [])) t_
        refine XS.goto X9.here hx rfl (pc0 := 138) (pc' := 148) rfl (hb hby at_138) (by decide) (by decide) ?_
        show Steps p_.tables e_ below (T9.setTop (mkF m_ 148 #[.val (.int a), .val (.int b), .val (.int (own_m a)), .val (.int (own_m b)), .val (.ref b1), .val (.ref y3), .val (.ref y8), .val (.ref y3), .val (.int (1 : Int32)), .val (.int (1 : Int32)), .val (.int (0 : Int32))] [])) t_
        refine XS.iconst X9.here hx rfl (hb hby at_148) ?_
        show Steps p_.tables e_ below (T9.setTop (mkF m_ 149 #[.val (.int a), .val (.int b), .val (.int (own_m a)), .val (.int (own_m b)), .val (.ref b1), .val (.ref y3), .val (.ref y8), .val (.ref y3), .val (.int (1 : Int32)), .val (.int (1 : Int32)), .val (.int (0 : Int32))] [(.int (1 : Int32))])) t_
        refine XS.goto X9.here hx rfl (pc0 := 149) (pc' := 153) rfl (hb hby at_149) (by decide) (by decide) ?_
        show Steps p_.tables e_ below (T9.setTop (mkF m_ 153 #[.val (.int a), .val (.int b), .val (.int (own_m a)), .val (.int (own_m b)), .val (.ref b1), .val (.ref y3), .val (.ref y8), .val (.ref y3), .val (.int (1 : Int32)), .val (.int (1 : Int32)), .val (.int (0 : Int32))] [(.int (1 : Int32))])) t_
        refine XS.istore X9.here hx rfl (hb hby at_153) rfl (l' := #[.val (.int a), .val (.int b), .val (.int (own_m a)), .val (.int (own_m b)), .val (.ref b1), .val (.ref y3), .val (.ref y8), .val (.ref y3), .val (.int (1 : Int32)), .val (.int (1 : Int32)), .val (.int (0 : Int32))]) rfl ?_
        show Steps p_.tables e_ below (T9.setTop (mkF m_ 155 #[.val (.int a), .val (.int b), .val (.int (own_m a)), .val (.int (own_m b)), .val (.ref b1), .val (.ref y3), .val (.ref y8), .val (.ref y3), .val (.int (1 : Int32)), .val (.int (1 : Int32)), .val (.int (0 : Int32))] [])) t_
        refine XS.iload X9.here hx rfl (hb hby at_155) rfl ?_
        show Steps p_.tables e_ below (T9.setTop (mkF m_ 157 #[.val (.int a), .val (.int b), .val (.int (own_m a)), .val (.int (own_m b)), .val (.ref b1), .val (.ref y3), .val (.ref y8), .val (.ref y3), .val (.int (1 : Int32)), .val (.int (1 : Int32)), .val (.int (0 : Int32))] [(.int (1 : Int32))])) t_
        refine XS.ifNo X9.here hx rfl (hb hby at_157) rfl ((if0 _ _).trans (feq (by decide : ¬ ((1 : Int32) = (0 : Int32)))).1) ?_
        show Steps p_.tables e_ below (T9.setTop (mkF m_ 160 #[.val (.int a), .val (.int b), .val (.int (own_m a)), .val (.int (own_m b)), .val (.ref b1), .val (.ref y3), .val (.ref y8), .val (.ref y3), .val (.int (1 : Int32)), .val (.int (1 : Int32)), .val (.int (0 : Int32))] [])) t_
        refine XS.iload X9.here hx rfl (hb hby at_160) rfl ?_
        show Steps p_.tables e_ below (T9.setTop (mkF m_ 162 #[.val (.int a), .val (.int b), .val (.int (own_m a)), .val (.int (own_m b)), .val (.ref b1), .val (.ref y3), .val (.ref y8), .val (.ref y3), .val (.int (1 : Int32)), .val (.int (1 : Int32)), .val (.int (0 : Int32))] [(.int (0 : Int32))])) t_
        refine XS.ifYes X9.here hx rfl (pc0 := 162) (pc' := 175) rfl (hb hby at_162) rfl ((if0 _ _).trans (teq (by decide : (0 : Int32) = (0 : Int32))).1) (by decide) (by decide) ?_
        show Steps p_.tables e_ below (T9.setTop (mkF m_ 175 #[.val (.int a), .val (.int b), .val (.int (own_m a)), .val (.int (own_m b)), .val (.ref b1), .val (.ref y3), .val (.ref y8), .val (.ref y3), .val (.int (1 : Int32)), .val (.int (1 : Int32)), .val (.int (0 : Int32))] [])) t_
        refine XS.aload X9.here hx rfl (hb hby at_175) rfl rfl ?_
        show Steps p_.tables e_ below (T9.setTop (mkF m_ 177 #[.val (.int a), .val (.int b), .val (.int (own_m a)), .val (.int (own_m b)), .val (.ref b1), .val (.ref y3), .val (.ref y8), .val (.ref y3), .val (.int (1 : Int32)), .val (.int (1 : Int32)), .val (.int (0 : Int32))] [(.ref y8)])) t_
        refine XS.aload X9.here hx rfl (hb hby at_177) rfl rfl ?_
        show Steps p_.tables e_ below (T9.setTop (mkF m_ 179 #[.val (.int a), .val (.int b), .val (.int (own_m a)), .val (.int (own_m b)), .val (.ref b1), .val (.ref y3), .val (.ref y8), .val (.ref y3), .val (.int (1 : Int32)), .val (.int (1 : Int32)), .val (.int (0 : Int32))] [(.ref y3), (.ref y8)])) t_
        refine Jvm.RoadKit.acmp (g := (mkF m_ 179 #[.val (.int a), .val (.int b), .val (.int (own_m a)), .val (.int (own_m b)), .val (.ref b1), .val (.ref y3), .val (.ref y8), .val (.ref y3), .val (.int (1 : Int32)), .val (.int (1 : Int32)), .val (.int (0 : Int32))] [(.ref y3), (.ref y8)])) X9 hx rfl rfl rfl (pc0 := 179) (pc' := 182) (same := false) rfl (hb hby at_179) rfl (decide_eq_false fun q => (Ne.symm ne_y3_y8) (Value.ref.inj q)) (by decide) (by decide) ?_
        show Steps p_.tables e_ below (T9.setTop (mkF m_ 182 #[.val (.int a), .val (.int b), .val (.int (own_m a)), .val (.int (own_m b)), .val (.ref b1), .val (.ref y3), .val (.ref y8), .val (.ref y3), .val (.int (1 : Int32)), .val (.int (1 : Int32)), .val (.int (0 : Int32))] [])) t_
        refine XS.iconst X9.here hx rfl (hb hby at_182) ?_
        show Steps p_.tables e_ below (T9.setTop (mkF m_ 183 #[.val (.int a), .val (.int b), .val (.int (own_m a)), .val (.int (own_m b)), .val (.ref b1), .val (.ref y3), .val (.ref y8), .val (.ref y3), .val (.int (1 : Int32)), .val (.int (1 : Int32)), .val (.int (0 : Int32))] [(.int (1 : Int32))])) t_
        refine XS.goto X9.here hx rfl (pc0 := 183) (pc' := 187) rfl (hb hby at_183) (by decide) (by decide) ?_
        show Steps p_.tables e_ below (T9.setTop (mkF m_ 187 #[.val (.int a), .val (.int b), .val (.int (own_m a)), .val (.int (own_m b)), .val (.ref b1), .val (.ref y3), .val (.ref y8), .val (.ref y3), .val (.int (1 : Int32)), .val (.int (1 : Int32)), .val (.int (0 : Int32))] [(.int (1 : Int32))])) t_
        refine XS.istore X9.here hx rfl (hb hby at_187) rfl (l' := #[.val (.int a), .val (.int b), .val (.int (own_m a)), .val (.int (own_m b)), .val (.ref b1), .val (.ref y3), .val (.ref y8), .val (.ref y3), .val (.int (1 : Int32)), .val (.int (1 : Int32)), .val (.int (0 : Int32))]) rfl ?_
        show Steps p_.tables e_ below (T9.setTop (mkF m_ 189 #[.val (.int a), .val (.int b), .val (.int (own_m a)), .val (.int (own_m b)), .val (.ref b1), .val (.ref y3), .val (.ref y8), .val (.ref y3), .val (.int (1 : Int32)), .val (.int (1 : Int32)), .val (.int (0 : Int32))] [])) t_
        refine XS.iload X9.here hx rfl (hb hby at_189) rfl ?_
        show Steps p_.tables e_ below (T9.setTop (mkF m_ 191 #[.val (.int a), .val (.int b), .val (.int (own_m a)), .val (.int (own_m b)), .val (.ref b1), .val (.ref y3), .val (.ref y8), .val (.ref y3), .val (.int (1 : Int32)), .val (.int (1 : Int32)), .val (.int (0 : Int32))] [(.int (1 : Int32))])) t_
        refine XS.ifNo X9.here hx rfl (hb hby at_191) rfl ((if0 _ _).trans (feq (by decide : ¬ ((1 : Int32) = (0 : Int32)))).1) ?_
        show Steps p_.tables e_ below (T9.setTop (mkF m_ 194 #[.val (.int a), .val (.int b), .val (.int (own_m a)), .val (.int (own_m b)), .val (.ref b1), .val (.ref y3), .val (.ref y8), .val (.ref y3), .val (.int (1 : Int32)), .val (.int (1 : Int32)), .val (.int (0 : Int32))] [])) t_
        refine XS.iload X9.here hx rfl (hb hby at_194) rfl ?_
        show Steps p_.tables e_ below (T9.setTop (mkF m_ 196 #[.val (.int a), .val (.int b), .val (.int (own_m a)), .val (.int (own_m b)), .val (.ref b1), .val (.ref y3), .val (.ref y8), .val (.ref y3), .val (.int (1 : Int32)), .val (.int (1 : Int32)), .val (.int (0 : Int32))] [(.int (0 : Int32))])) t_
        refine XS.ifYes X9.here hx rfl (pc0 := 196) (pc' := 209) rfl (hb hby at_196) rfl ((if0 _ _).trans (teq (by decide : (0 : Int32) = (0 : Int32))).1) (by decide) (by decide) ?_
        show Steps p_.tables e_ below (T9.setTop (mkF m_ 209 #[.val (.int a), .val (.int b), .val (.int (own_m a)), .val (.int (own_m b)), .val (.ref b1), .val (.ref y3), .val (.ref y8), .val (.ref y3), .val (.int (1 : Int32)), .val (.int (1 : Int32)), .val (.int (0 : Int32))] [])) t_
        refine XS.aload X9.here hx rfl (hb hby at_209) rfl rfl ?_
        show Steps p_.tables e_ below (T9.setTop (mkF m_ 211 #[.val (.int a), .val (.int b), .val (.int (own_m a)), .val (.int (own_m b)), .val (.ref b1), .val (.ref y3), .val (.ref y8), .val (.ref y3), .val (.int (1 : Int32)), .val (.int (1 : Int32)), .val (.int (0 : Int32))] [(.ref y3)])) t_
        refine XS.aload X9.here hx rfl (hb hby at_211) rfl rfl ?_
        show Steps p_.tables e_ below (T9.setTop (mkF m_ 213 #[.val (.int a), .val (.int b), .val (.int (own_m a)), .val (.int (own_m b)), .val (.ref b1), .val (.ref y3), .val (.ref y8), .val (.ref y3), .val (.int (1 : Int32)), .val (.int (1 : Int32)), .val (.int (0 : Int32))] [(.ref y8), (.ref y3)])) t_
        refine Jvm.RoadKit.acmp (g := (mkF m_ 213 #[.val (.int a), .val (.int b), .val (.int (own_m a)), .val (.int (own_m b)), .val (.ref b1), .val (.ref y3), .val (.ref y8), .val (.ref y3), .val (.int (1 : Int32)), .val (.int (1 : Int32)), .val (.int (0 : Int32))] [(.ref y8), (.ref y3)])) X9 hx rfl rfl rfl (pc0 := 213) (pc' := 216) (same := false) rfl (hb hby at_213) rfl (decide_eq_false fun q => ne_y3_y8 (Value.ref.inj q)) (by decide) (by decide) ?_
        show Steps p_.tables e_ below (T9.setTop (mkF m_ 216 #[.val (.int a), .val (.int b), .val (.int (own_m a)), .val (.int (own_m b)), .val (.ref b1), .val (.ref y3), .val (.ref y8), .val (.ref y3), .val (.int (1 : Int32)), .val (.int (1 : Int32)), .val (.int (0 : Int32))] [])) t_
        refine XS.iconst X9.here hx rfl (hb hby at_216) ?_
        show Steps p_.tables e_ below (T9.setTop (mkF m_ 217 #[.val (.int a), .val (.int b), .val (.int (own_m a)), .val (.int (own_m b)), .val (.ref b1), .val (.ref y3), .val (.ref y8), .val (.ref y3), .val (.int (1 : Int32)), .val (.int (1 : Int32)), .val (.int (0 : Int32))] [(.int (1 : Int32))])) t_
        refine XS.goto X9.here hx rfl (pc0 := 217) (pc' := 221) rfl (hb hby at_217) (by decide) (by decide) ?_
        show Steps p_.tables e_ below (T9.setTop (mkF m_ 221 #[.val (.int a), .val (.int b), .val (.int (own_m a)), .val (.int (own_m b)), .val (.ref b1), .val (.ref y3), .val (.ref y8), .val (.ref y3), .val (.int (1 : Int32)), .val (.int (1 : Int32)), .val (.int (0 : Int32))] [(.int (1 : Int32))])) t_
        refine XS.istore X9.here hx rfl (hb hby at_221) rfl (l' := #[.val (.int a), .val (.int b), .val (.int (own_m a)), .val (.int (own_m b)), .val (.ref b1), .val (.ref y3), .val (.ref y8), .val (.ref y3), .val (.int (1 : Int32)), .val (.int (1 : Int32)), .val (.int (0 : Int32))]) rfl ?_
        show Steps p_.tables e_ below (T9.setTop (mkF m_ 223 #[.val (.int a), .val (.int b), .val (.int (own_m a)), .val (.int (own_m b)), .val (.ref b1), .val (.ref y3), .val (.ref y8), .val (.ref y3), .val (.int (1 : Int32)), .val (.int (1 : Int32)), .val (.int (0 : Int32))] [])) t_
        refine XS.iload X9.here hx rfl (hb hby at_223) rfl ?_
        show Steps p_.tables e_ below (T9.setTop (mkF m_ 225 #[.val (.int a), .val (.int b), .val (.int (own_m a)), .val (.int (own_m b)), .val (.ref b1), .val (.ref y3), .val (.ref y8), .val (.ref y3), .val (.int (1 : Int32)), .val (.int (1 : Int32)), .val (.int (0 : Int32))] [(.int (1 : Int32))])) t_
        exact k_
      refine own_retN X9 hx hlk (t := .boolean) hret (by simp) (hb hby at_225) (by decide) (by decide) ?_
      exact ⟨rfl, N9⟩
  · refine own_callV X2 hx hZ (y := (⟨"com/example/wiry_producer/wiryproducer/command/ReusedArrays", "of", "(I)[B"⟩ : MethodName)) (z := (⟨"com/example/wiry_producer/wiryproducer/command/ReusedArrays", "of", "(I)[B"⟩ : MethodName)) hown (hw _ (List.mem_of_getElem? (i := 13) rfl)) (hw _ (List.mem_of_getElem? (i := 14) rfl)) (notFace_of_selects (args := #[]) (mvT hZ (hw _ (List.mem_of_getElem? (i := 16) rfl)))) (hw _ (List.mem_of_getElem? (i := 16) rfl)) (hw _ (List.mem_of_getElem? (i := 15) rfl)) (hw _ (List.mem_of_getElem? (i := 2) rfl)) (hw _ (List.mem_of_getElem? (i := 17) rfl)) (by decide) b1 [(.int (own_m a))] [] E_b1 (rm3A l Z a0 hw b1 (own_m a) (own_mn a) T2.heap n0 Z0 (own_m3 a) rfl (own_m1 a) (own_m4 a) h1) 0 (by decide) (by decide) rfl (by rw [hml]; rfl) (lenOf own_pd1 rfl) rfl (Nat.le_of_eq rfl) (hb hby at_24) (by decide) (by decide) ?_
    intro v10 T10 L10 X10 q10
    obtain ⟨y10, kb10, rfl, g_y10, sz10, N10q, K10, Aq10⟩ := q10
    have N10 := Fr.app N2 N10q
    have ne_b1_y10 : b1 ≠ y10 := Nat.ne_of_lt (Nat.lt_of_lt_of_le E_b1.lt sz10)
    have ne_tt_y10 : tt ≠ y10 := Nat.ne_of_lt (Nat.lt_of_lt_of_le A_tt.lt sz10)
    replace E_b1 := E_b1.keep K10
    replace F_byLength_b1 := F_byLength_b1.keep K10 nin0
    replace A_tt := A_tt.keep K10 nin0
    replace Z0 : n0 ≤ T10.heap.size := Nat.le_trans Z0 K10.1
    have A_y10 := Aq10
    show own_Out p_ e_ below s_ _ _ _ T10 (mkF m_ 27 #[.val (.int a), .val (.int b), .val (.int (own_m a)), .val (.int (own_m b)), .val (.ref b1), .unset, .unset, .unset, .unset, .unset, .unset] [(.ref y10)])
    refine own_st T10 (mkF m_ 32 #[.val (.int a), .val (.int b), .val (.int (own_m a)), .val (.int (own_m b)), .val (.ref b1), .val (.ref y10), .unset, .unset, .unset, .unset, .unset] [(.int (own_m b)), (.ref b1)]) (fun t_ k_ => ?_) ?_
    · refine XS.astore X10.here hx rfl (hb hby at_27) rfl rfl (l' := #[.val (.int a), .val (.int b), .val (.int (own_m a)), .val (.int (own_m b)), .val (.ref b1), .val (.ref y10), .unset, .unset, .unset, .unset, .unset]) rfl ?_
      show Steps p_.tables e_ below (T10.setTop (mkF m_ 29 #[.val (.int a), .val (.int b), .val (.int (own_m a)), .val (.int (own_m b)), .val (.ref b1), .val (.ref y10), .unset, .unset, .unset, .unset, .unset] [])) t_
      refine XS.aload X10.here hx rfl (hb hby at_29) rfl rfl ?_
      show Steps p_.tables e_ below (T10.setTop (mkF m_ 31 #[.val (.int a), .val (.int b), .val (.int (own_m a)), .val (.int (own_m b)), .val (.ref b1), .val (.ref y10), .unset, .unset, .unset, .unset, .unset] [(.ref b1)])) t_
      refine XS.iloadN X10.here hx rfl (hb hby at_31) rfl ?_
      show Steps p_.tables e_ below (T10.setTop (mkF m_ 32 #[.val (.int a), .val (.int b), .val (.int (own_m a)), .val (.int (own_m b)), .val (.ref b1), .val (.ref y10), .unset, .unset, .unset, .unset, .unset] [(.int (own_m b)), (.ref b1)])) t_
      exact k_
    by_cases h2 : own_m b < (1024 : Int32)
    · refine own_callV X10 hx hZ (y := (⟨"com/example/wiry_producer/wiryproducer/command/ReusedArrays", "of", "(I)[B"⟩ : MethodName)) (z := (⟨"com/example/wiry_producer/wiryproducer/command/ReusedArrays", "of", "(I)[B"⟩ : MethodName)) hown (hw _ (List.mem_of_getElem? (i := 13) rfl)) (hw _ (List.mem_of_getElem? (i := 14) rfl)) (notFace_of_selects (args := #[]) (mvT hZ (hw _ (List.mem_of_getElem? (i := 16) rfl)))) (hw _ (List.mem_of_getElem? (i := 16) rfl)) (hw _ (List.mem_of_getElem? (i := 15) rfl)) (hw _ (List.mem_of_getElem? (i := 2) rfl)) (hw _ (List.mem_of_getElem? (i := 17) rfl)) (by decide) b1 [(.int (own_m b))] [] E_b1 (rm3B l Z a0 hw b1 (own_m b) (own_mn b) tt kt (fun x => .null) T10.heap n0 Z0 (own_m3 b) rfl (own_m1 b) F_byLength_b1 A_tt Ott (own_m5 h2) h2 (own_m6 h2) rfl g_tt ne_b1_tt) 0 (by decide) (by decide) rfl (by rw [hml]; rfl) (lenOf own_pd1 rfl) rfl (Nat.le_of_eq rfl) (hb hby at_32) (by decide) (by decide) ?_
      intro v11 T11 L11 X11 q11
      obtain ⟨y11, kb11, rfl, g_y11, sz11, N11q, K11, Aq11, At11⟩ := q11
      have N11 := Fr.app N10 N11q
      have ne_b1_y11 : b1 ≠ y11 := Nat.ne_of_lt (Nat.lt_of_lt_of_le E_b1.lt sz11)
      have ne_tt_y11 : tt ≠ y11 := Nat.ne_of_lt (Nat.lt_of_lt_of_le A_tt.lt sz11)
      have ne_y10_y11 : y10 ≠ y11 := Nat.ne_of_lt (Nat.lt_of_lt_of_le A_y10.lt sz11)
      replace E_b1 := E_b1.keep K11
      replace F_byLength_b1 := F_byLength_b1.keep K11 (ninS ne_b1_tt nin0)
      -- A_tt is dropped: written by the callee
      replace A_y10 := A_y10.keep K11 (ninS (Ne.symm ne_tt_y10) nin0)
      replace Z0 : n0 ≤ T11.heap.size := Nat.le_trans Z0 K11.1
      have A_y11 := Aq11
      have A_tt := At11
      show own_Out p_ e_ below s_ _ _ _ T11 (mkF m_ 35 #[.val (.int a), .val (.int b), .val (.int (own_m a)), .val (.int (own_m b)), .val (.ref b1), .val (.ref y10), .unset, .unset, .unset, .unset, .unset] [(.ref y11)])
      refine own_st T11 (mkF m_ 40 #[.val (.int a), .val (.int b), .val (.int (own_m a)), .val (.int (own_m b)), .val (.ref b1), .val (.ref y10), .val (.ref y11), .unset, .unset, .unset, .unset] [(.int (own_m a)), (.ref b1)]) (fun t_ k_ => ?_) ?_
      · refine XS.astore X11.here hx rfl (hb hby at_35) rfl rfl (l' := #[.val (.int a), .val (.int b), .val (.int (own_m a)), .val (.int (own_m b)), .val (.ref b1), .val (.ref y10), .val (.ref y11), .unset, .unset, .unset, .unset]) rfl ?_
        show Steps p_.tables e_ below (T11.setTop (mkF m_ 37 #[.val (.int a), .val (.int b), .val (.int (own_m a)), .val (.int (own_m b)), .val (.ref b1), .val (.ref y10), .val (.ref y11), .unset, .unset, .unset, .unset] [])) t_
        refine XS.aload X11.here hx rfl (hb hby at_37) rfl rfl ?_
        show Steps p_.tables e_ below (T11.setTop (mkF m_ 39 #[.val (.int a), .val (.int b), .val (.int (own_m a)), .val (.int (own_m b)), .val (.ref b1), .val (.ref y10), .val (.ref y11), .unset, .unset, .unset, .unset] [(.ref b1)])) t_
        refine XS.iloadN X11.here hx rfl (hb hby at_39) rfl ?_
        show Steps p_.tables e_ below (T11.setTop (mkF m_ 40 #[.val (.int a), .val (.int b), .val (.int (own_m a)), .val (.int (own_m b)), .val (.ref b1), .val (.ref y10), .val (.ref y11), .unset, .unset, .unset, .unset] [(.int (own_m a)), (.ref b1)])) t_
        exact k_
      refine own_callV X11 hx hZ (y := (⟨"com/example/wiry_producer/wiryproducer/command/ReusedArrays", "of", "(I)[B"⟩ : MethodName)) (z := (⟨"com/example/wiry_producer/wiryproducer/command/ReusedArrays", "of", "(I)[B"⟩ : MethodName)) hown (hw _ (List.mem_of_getElem? (i := 13) rfl)) (hw _ (List.mem_of_getElem? (i := 14) rfl)) (notFace_of_selects (args := #[]) (mvT hZ (hw _ (List.mem_of_getElem? (i := 16) rfl)))) (hw _ (List.mem_of_getElem? (i := 16) rfl)) (hw _ (List.mem_of_getElem? (i := 15) rfl)) (hw _ (List.mem_of_getElem? (i := 2) rfl)) (hw _ (List.mem_of_getElem? (i := 17) rfl)) (by decide) b1 [(.int (own_m a))] [] E_b1 (rm3A l Z a0 hw b1 (own_m a) (own_mn a) T11.heap n0 Z0 (own_m3 a) rfl (own_m1 a) (own_m4 a) h1) 0 (by decide) (by decide) rfl (by rw [hml]; rfl) (lenOf own_pd1 rfl) rfl (Nat.le_of_eq rfl) (hb hby at_40) (by decide) (by decide) ?_
      intro v12 T12 L12 X12 q12
      obtain ⟨y12, kb12, rfl, g_y12, sz12, N12q, K12, Aq12⟩ := q12
      have N12 := Fr.app N11 N12q
      have ne_b1_y12 : b1 ≠ y12 := Nat.ne_of_lt (Nat.lt_of_lt_of_le E_b1.lt sz12)
      have ne_y10_y12 : y10 ≠ y12 := Nat.ne_of_lt (Nat.lt_of_lt_of_le A_y10.lt sz12)
      have ne_y11_y12 : y11 ≠ y12 := Nat.ne_of_lt (Nat.lt_of_lt_of_le A_y11.lt sz12)
      have ne_tt_y12 : tt ≠ y12 := Nat.ne_of_lt (Nat.lt_of_lt_of_le A_tt.lt sz12)
      replace E_b1 := E_b1.keep K12
      replace F_byLength_b1 := F_byLength_b1.keep K12 nin0
      replace A_y10 := A_y10.keep K12 nin0
      replace A_y11 := A_y11.keep K12 nin0
      replace A_tt := A_tt.keep K12 nin0
      replace Z0 : n0 ≤ T12.heap.size := Nat.le_trans Z0 K12.1
      have A_y12 := Aq12
      show own_Out p_ e_ below s_ _ _ _ T12 (mkF m_ 43 #[.val (.int a), .val (.int b), .val (.int (own_m a)), .val (.int (own_m b)), .val (.ref b1), .val (.ref y10), .val (.ref y11), .unset, .unset, .unset, .unset] [(.ref y12)])
      refine own_st T12 (mkF m_ 225 #[.val (.int a), .val (.int b), .val (.int (own_m a)), .val (.int (own_m b)), .val (.ref b1), .val (.ref y10), .val (.ref y11), .val (.ref y12), .val (.int (1 : Int32)), .val (.int (0 : Int32)), .val (.int (0 : Int32))] [(.int (1 : Int32))]) (fun t_ k_ => ?_) ?_
      · refine XS.astore X12.here hx rfl (hb hby at_43) rfl rfl (l' := #[.val (.int a), .val (.int b), .val (.int (own_m a)), .val (.int (own_m b)), .val (.ref b1), .val (.ref y10), .val (.ref y11), .val (.ref y12), .unset, .unset, .unset]) rfl ?_
        show Steps p_.tables e_ below (T12.setTop (mkF m_ 45 #[.val (.int a), .val (.int b), .val (.int (own_m a)), .val (.int (own_m b)), .val (.ref b1), .val (.ref y10), .val (.ref y11), .val (.ref y12), .unset, .unset, .unset] [])) t_
        refine XS.aload X12.here hx rfl (hb hby at_45) rfl rfl ?_
        show Steps p_.tables e_ below (T12.setTop (mkF m_ 47 #[.val (.int a), .val (.int b), .val (.int (own_m a)), .val (.int (own_m b)), .val (.ref b1), .val (.ref y10), .val (.ref y11), .val (.ref y12), .unset, .unset, .unset] [(.ref y10)])) t_
        refine XS.ifnullNo X12.here hx rfl (hb hby at_47) rfl ?_
        show Steps p_.tables e_ below (T12.setTop (mkF m_ 50 #[.val (.int a), .val (.int b), .val (.int (own_m a)), .val (.int (own_m b)), .val (.ref b1), .val (.ref y10), .val (.ref y11), .val (.ref y12), .unset, .unset, .unset] [])) t_
        refine XS.aload X12.here hx rfl (hb hby at_50) rfl rfl ?_
        show Steps p_.tables e_ below (T12.setTop (mkF m_ 52 #[.val (.int a), .val (.int b), .val (.int (own_m a)), .val (.int (own_m b)), .val (.ref b1), .val (.ref y10), .val (.ref y11), .val (.ref y12), .unset, .unset, .unset] [(.ref y11)])) t_
        refine XS.ifnullNo X12.here hx rfl (hb hby at_52) rfl ?_
        show Steps p_.tables e_ below (T12.setTop (mkF m_ 55 #[.val (.int a), .val (.int b), .val (.int (own_m a)), .val (.int (own_m b)), .val (.ref b1), .val (.ref y10), .val (.ref y11), .val (.ref y12), .unset, .unset, .unset] [])) t_
        refine XS.aload X12.here hx rfl (hb hby at_55) rfl rfl ?_
        show Steps p_.tables e_ below (T12.setTop (mkF m_ 57 #[.val (.int a), .val (.int b), .val (.int (own_m a)), .val (.int (own_m b)), .val (.ref b1), .val (.ref y10), .val (.ref y11), .val (.ref y12), .unset, .unset, .unset] [(.ref y12)])) t_
        refine XS.ifnonnullYes X12.here hx rfl (pc0 := 57) (pc' := 62) rfl (hb hby at_57) rfl (by decide) (by decide) ?_
        show Steps p_.tables e_ below (T12.setTop (mkF m_ 62 #[.val (.int a), .val (.int b), .val (.int (own_m a)), .val (.int (own_m b)), .val (.ref b1), .val (.ref y10), .val (.ref y11), .val (.ref y12), .unset, .unset, .unset] [])) t_
        refine XS.aload X12.here hx rfl (hb hby at_62) rfl rfl ?_
        show Steps p_.tables e_ below (T12.setTop (mkF m_ 64 #[.val (.int a), .val (.int b), .val (.int (own_m a)), .val (.int (own_m b)), .val (.ref b1), .val (.ref y10), .val (.ref y11), .val (.ref y12), .unset, .unset, .unset] [(.ref y10)])) t_
        refine own_len X12 hx hZ rfl A_y10 (hb hby at_64) (own_m a) (own_m1 a) _ ?_
        show Steps p_.tables e_ below (T12.setTop (mkF m_ 65 #[.val (.int a), .val (.int b), .val (.int (own_m a)), .val (.int (own_m b)), .val (.ref b1), .val (.ref y10), .val (.ref y11), .val (.ref y12), .unset, .unset, .unset] [(.int (own_m a))])) t_
        refine XS.iloadN X12.here hx rfl (hb hby at_65) rfl ?_
        show Steps p_.tables e_ below (T12.setTop (mkF m_ 66 #[.val (.int a), .val (.int b), .val (.int (own_m a)), .val (.int (own_m b)), .val (.ref b1), .val (.ref y10), .val (.ref y11), .val (.ref y12), .unset, .unset, .unset] [(.int (own_m a)), (.int (own_m a))])) t_
        refine XS.icmpNo X12.here hx rfl (hb hby at_66) rfl (teq (rfl : (own_m a) = (own_m a))).2 ?_
        show Steps p_.tables e_ below (T12.setTop (mkF m_ 69 #[.val (.int a), .val (.int b), .val (.int (own_m a)), .val (.int (own_m b)), .val (.ref b1), .val (.ref y10), .val (.ref y11), .val (.ref y12), .unset, .unset, .unset] [])) t_
        refine XS.aload X12.here hx rfl (hb hby at_69) rfl rfl ?_
        show Steps p_.tables e_ below (T12.setTop (mkF m_ 71 #[.val (.int a), .val (.int b), .val (.int (own_m a)), .val (.int (own_m b)), .val (.ref b1), .val (.ref y10), .val (.ref y11), .val (.ref y12), .unset, .unset, .unset] [(.ref y11)])) t_
        refine own_len X12 hx hZ rfl A_y11 (hb hby at_71) (own_m b) (own_m1 b) _ ?_
        show Steps p_.tables e_ below (T12.setTop (mkF m_ 72 #[.val (.int a), .val (.int b), .val (.int (own_m a)), .val (.int (own_m b)), .val (.ref b1), .val (.ref y10), .val (.ref y11), .val (.ref y12), .unset, .unset, .unset] [(.int (own_m b))])) t_
        refine XS.iloadN X12.here hx rfl (hb hby at_72) rfl ?_
        show Steps p_.tables e_ below (T12.setTop (mkF m_ 73 #[.val (.int a), .val (.int b), .val (.int (own_m a)), .val (.int (own_m b)), .val (.ref b1), .val (.ref y10), .val (.ref y11), .val (.ref y12), .unset, .unset, .unset] [(.int (own_m b)), (.int (own_m b))])) t_
        refine XS.icmpNo X12.here hx rfl (hb hby at_73) rfl (teq (rfl : (own_m b) = (own_m b))).2 ?_
        show Steps p_.tables e_ below (T12.setTop (mkF m_ 76 #[.val (.int a), .val (.int b), .val (.int (own_m a)), .val (.int (own_m b)), .val (.ref b1), .val (.ref y10), .val (.ref y11), .val (.ref y12), .unset, .unset, .unset] [])) t_
        refine XS.aload X12.here hx rfl (hb hby at_76) rfl rfl ?_
        show Steps p_.tables e_ below (T12.setTop (mkF m_ 78 #[.val (.int a), .val (.int b), .val (.int (own_m a)), .val (.int (own_m b)), .val (.ref b1), .val (.ref y10), .val (.ref y11), .val (.ref y12), .unset, .unset, .unset] [(.ref y12)])) t_
        refine own_len X12 hx hZ rfl A_y12 (hb hby at_78) (own_m a) (own_m1 a) _ ?_
        show Steps p_.tables e_ below (T12.setTop (mkF m_ 79 #[.val (.int a), .val (.int b), .val (.int (own_m a)), .val (.int (own_m b)), .val (.ref b1), .val (.ref y10), .val (.ref y11), .val (.ref y12), .unset, .unset, .unset] [(.int (own_m a))])) t_
        refine XS.iloadN X12.here hx rfl (hb hby at_79) rfl ?_
        show Steps p_.tables e_ below (T12.setTop (mkF m_ 80 #[.val (.int a), .val (.int b), .val (.int (own_m a)), .val (.int (own_m b)), .val (.ref b1), .val (.ref y10), .val (.ref y11), .val (.ref y12), .unset, .unset, .unset] [(.int (own_m a)), (.int (own_m a))])) t_
        refine XS.icmpNo X12.here hx rfl (hb hby at_80) rfl (teq (rfl : (own_m a) = (own_m a))).2 ?_
        show Steps p_.tables e_ below (T12.setTop (mkF m_ 83 #[.val (.int a), .val (.int b), .val (.int (own_m a)), .val (.int (own_m b)), .val (.ref b1), .val (.ref y10), .val (.ref y11), .val (.ref y12), .unset, .unset, .unset] [])) t_
        refine XS.iconst X12.here hx rfl (hb hby at_83) ?_
        show Steps p_.tables e_ below (T12.setTop (mkF m_ 84 #[.val (.int a), .val (.int b), .val (.int (own_m a)), .val (.int (own_m b)), .val (.ref b1), .val (.ref y10), .val (.ref y11), .val (.ref y12), .unset, .unset, .unset] [(.int (1 : Int32))])) t_
        refine XS.goto X12.here hx rfl (pc0 := 84) (pc' := 88) rfl (hb hby at_84) (by decide) (by decide) ?_
        show Steps p_.tables e_ below (T12.setTop (mkF m_ 88 #[.val (.int a), .val (.int b), .val (.int (own_m a)), .val (.int (own_m b)), .val (.ref b1), .val (.ref y10), .val (.ref y11), .val (.ref y12), .unset, .unset, .unset] [(.int (1 : Int32))])) t_
        refine XS.istore X12.here hx rfl (hb hby at_88) rfl (l' := #[.val (.int a), .val (.int b), .val (.int (own_m a)), .val (.int (own_m b)), .val (.ref b1), .val (.ref y10), .val (.ref y11), .val (.ref y12), .val (.int (1 : Int32)), .unset, .unset]) rfl ?_
        show Steps p_.tables e_ below (T12.setTop (mkF m_ 90 #[.val (.int a), .val (.int b), .val (.int (own_m a)), .val (.int (own_m b)), .val (.ref b1), .val (.ref y10), .val (.ref y11), .val (.ref y12), .val (.int (1 : Int32)), .unset, .unset] [])) t_
        refine XS.iloadN X12.here hx rfl (hb hby at_90) rfl ?_
        show Steps p_.tables e_ below (T12.setTop (mkF m_ 91 #[.val (.int a), .val (.int b), .val (.int (own_m a)), .val (.int (own_m b)), .val (.ref b1), .val (.ref y10), .val (.ref y11), .val (.ref y12), .val (.int (1 : Int32)), .unset, .unset] [(.int (own_m a))])) t_
        refine XS.sipush X12.here hx rfl (hb hby at_91) ?_
        show Steps p_.tables e_ below (T12.setTop (mkF m_ 94 #[.val (.int a), .val (.int b), .val (.int (own_m a)), .val (.int (own_m b)), .val (.ref b1), .val (.ref y10), .val (.ref y11), .val (.ref y12), .val (.int (1 : Int32)), .unset, .unset] [(.int (1024 : Int32)), (.int (own_m a))])) t_
        refine XS.icmpYes X12.here hx rfl (pc0 := 94) (pc' := 101) rfl (hb hby at_94) rfl (flt (h1 : ¬ ((own_m a) < (1024 : Int32)))).2.1 (by decide) (by decide) ?_
        show Steps p_.tables e_ below (T12.setTop (mkF m_ 101 #[.val (.int a), .val (.int b), .val (.int (own_m a)), .val (.int (own_m b)), .val (.ref b1), .val (.ref y10), .val (.ref y11), .val (.ref y12), .val (.int (1 : Int32)), .unset, .unset] [])) t_
        refine XS.iconst X12.here hx rfl (hb hby at_101) ?_
        show Steps p_.tables e_ below (T12.setTop (mkF m_ 102 #[.val (.int a), .val (.int b), .val (.int (own_m a)), .val (.int (own_m b)), .val (.ref b1), .val (.ref y10), .val (.ref y11), .val (.ref y12), .val (.int (1 : Int32)), .unset, .unset] [(.int (0 : Int32))])) t_
        refine XS.istore X12.here hx rfl (hb hby at_102) rfl (l' := #[.val (.int a), .val (.int b), .val (.int (own_m a)), .val (.int (own_m b)), .val (.ref b1), .val (.ref y10), .val (.ref y11), .val (.ref y12), .val (.int (1 : Int32)), .val (.int (0 : Int32)), .unset]) rfl ?_
        show Steps p_.tables e_ below (T12.setTop (mkF m_ 104 #[.val (.int a), .val (.int b), .val (.int (own_m a)), .val (.int (own_m b)), .val (.ref b1), .val (.ref y10), .val (.ref y11), .val (.ref y12), .val (.int (1 : Int32)), .val (.int (0 : Int32)), .unset] [])) t_
        refine XS.iloadN X12.here hx rfl (hb hby at_104) rfl ?_
        show Steps p_.tables e_ below (T12.setTop (mkF m_ 105 #[.val (.int a), .val (.int b), .val (.int (own_m a)), .val (.int (own_m b)), .val (.ref b1), .val (.ref y10), .val (.ref y11), .val (.ref y12), .val (.int (1 : Int32)), .val (.int (0 : Int32)), .unset] [(.int (own_m a))])) t_
        refine XS.iloadN X12.here hx rfl (hb hby at_105) rfl ?_
        show Steps p_.tables e_ below (T12.setTop (mkF m_ 106 #[.val (.int a), .val (.int b), .val (.int (own_m a)), .val (.int (own_m b)), .val (.ref b1), .val (.ref y10), .val (.ref y11), .val (.ref y12), .val (.int (1 : Int32)), .val (.int (0 : Int32)), .unset] [(.int (own_m b)), (.int (own_m a))])) t_
        refine XS.icmpYes X12.here hx rfl (pc0 := 106) (pc' := 118) rfl (hb hby at_106) rfl (feq (own_m10 h1 h2 : ¬ ((own_m a) = (own_m b)))).2 (by decide) (by decide) ?_
        show Steps p_.tables e_ below (T12.setTop (mkF m_ 118 #[.val (.int a), .val (.int b), .val (.int (own_m a)), .val (.int (own_m b)), .val (.ref b1), .val (.ref y10), .val (.ref y11), .val (.ref y12), .val (.int (1 : Int32)), .val (.int (0 : Int32)), .unset] [])) t_
        refine XS.iconst X12.here hx rfl (hb hby at_118) ?_
        show Steps p_.tables e_ below (T12.setTop (mkF m_ 119 #[.val (.int a), .val (.int b), .val (.int (own_m a)), .val (.int (own_m b)), .val (.ref b1), .val (.ref y10), .val (.ref y11), .val (.ref y12), .val (.int (1 : Int32)), .val (.int (0 : Int32)), .unset] [(.int (0 : Int32))])) t_
        refine XS.istore X12.here hx rfl (hb hby at_119) rfl (l' := #[.val (.int a), .val (.int b), .val (.int (own_m a)), .val (.int (own_m b)), .val (.ref b1), .val (.ref y10), .val (.ref y11), .val (.ref y12), .val (.int (1 : Int32)), .val (.int (0 : Int32)), .val (.int (0 : Int32))]) rfl ?_
        show Steps p_.tables e_ below (T12.setTop (mkF m_ 121 #[.val (.int a), .val (.int b), .val (.int (own_m a)), .val (.int (own_m b)), .val (.ref b1), .val (.ref y10), .val (.ref y11), .val (.ref y12), .val (.int (1 : Int32)), .val (.int (0 : Int32)), .val (.int (0 : Int32))] [])) t_
        refine XS.iload X12.here hx rfl (hb hby at_121) rfl ?_
        show Steps p_.tables e_ below (T12.setTop (mkF m_ 123 #[.val (.int a), .val (.int b), .val (.int (own_m a)), .val (.int (own_m b)), .val (.ref b1), .val (.ref y10), .val (.ref y11), .val (.ref y12), .val (.int (1 : Int32)), .val (.int (0 : Int32)), .val (.int (0 : Int32))] [(.int (1 : Int32))])) t_
        refine XS.ifNo X12.here hx rfl (hb hby at_123) rfl ((if0 _ _).trans (feq (by decide : ¬ ((1 : Int32) = (0 : Int32)))).1) ?_
        show Steps p_.tables e_ below (T12.setTop (mkF m_ 126 #[.val (.int a), .val (.int b), .val (.int (own_m a)), .val (.int (own_m b)), .val (.ref b1), .val (.ref y10), .val (.ref y11), .val (.ref y12), .val (.int (1 : Int32)), .val (.int (0 : Int32)), .val (.int (0 : Int32))] [])) t_
        refine XS.iload X12.here hx rfl (hb hby at_126) rfl ?_
        show Steps p_.tables e_ below (T12.setTop (mkF m_ 128 #[.val (.int a), .val (.int b), .val (.int (own_m a)), .val (.int (own_m b)), .val (.ref b1), .val (.ref y10), .val (.ref y11), .val (.ref y12), .val (.int (1 : Int32)), .val (.int (0 : Int32)), .val (.int (0 : Int32))] [(.int (0 : Int32))])) t_
        refine XS.ifYes X12.here hx rfl (pc0 := 128) (pc' := 141) rfl (hb hby at_128) rfl ((if0 _ _).trans (teq (by decide : (0 : Int32) = (0 : Int32))).1) (by decide) (by decide) ?_
        show Steps p_.tables e_ below (T12.setTop (mkF m_ 141 #[.val (.int a), .val (.int b), .val (.int (own_m a)), .val (.int (own_m b)), .val (.ref b1), .val (.ref y10), .val (.ref y11), .val (.ref y12), .val (.int (1 : Int32)), .val (.int (0 : Int32)), .val (.int (0 : Int32))] [])) t_
        refine XS.aload X12.here hx rfl (hb hby at_141) rfl rfl ?_
        show Steps p_.tables e_ below (T12.setTop (mkF m_ 143 #[.val (.int a), .val (.int b), .val (.int (own_m a)), .val (.int (own_m b)), .val (.ref b1), .val (.ref y10), .val (.ref y11), .val (.ref y12), .val (.int (1 : Int32)), .val (.int (0 : Int32)), .val (.int (0 : Int32))] [(.ref y12)])) t_
        refine XS.aload X12.here hx rfl (hb hby at_143) rfl rfl ?_
        show Steps p_.tables e_ below (T12.setTop (mkF m_ 145 #[.val (.int a), .val (.int b), .val (.int (own_m a)), .val (.int (own_m b)), .val (.ref b1), .val (.ref y10), .val (.ref y11), .val (.ref y12), .val (.int (1 : Int32)), .val (.int (0 : Int32)), .val (.int (0 : Int32))] [(.ref y10), (.ref y12)])) t_
        refine Jvm.RoadKit.acmp (g := (mkF m_ 145 #[.val (.int a), .val (.int b), .val (.int (own_m a)), .val (.int (own_m b)), .val (.ref b1), .val (.ref y10), .val (.ref y11), .val (.ref y12), .val (.int (1 : Int32)), .val (.int (0 : Int32)), .val (.int (0 : Int32))] [(.ref y10), (.ref y12)])) X12 hx rfl rfl rfl (pc0 := 145) (pc' := 148) (same := false) rfl (hb hby at_145) rfl (decide_eq_false fun q => (Ne.symm ne_y10_y12) (Value.ref.inj q)) (by decide) (by decide) ?_
        show Steps p_.tables e_ below (T12.setTop (mkF m_ 148 #[.val (.int a), .val (.int b), .val (.int (own_m a)), .val (.int (own_m b)), .val (.ref b1), .val (.ref y10), .val (.ref y11), .val (.ref y12), .val (.int (1 : Int32)), .val (.int (0 : Int32)), .val (.int (0 : Int32))] [])) t_
        refine XS.iconst X12.here hx rfl (hb hby at_148) ?_
        show Steps p_.tables e_ below (T12.setTop (mkF m_ 149 #[.val (.int a), .val (.int b), .val (.int (own_m a)), .val (.int (own_m b)), .val (.ref b1), .val (.ref y10), .val (.ref y11), .val (.ref y12), .val (.int (1 : Int32)), .val (.int (0 : Int32)), .val (.int (0 : Int32))] [(.int (1 : Int32))])) t_
        refine XS.goto X12.here hx rfl (pc0 := 149) (pc' := 153) rfl (hb hby at_149) (by decide) (by decide) ?_
        show Steps p_.tables e_ below (T12.setTop (mkF m_ 153 #[.val (.int a), .val (.int b), .val (.int (own_m a)), .val (.int (own_m b)), .val (.ref b1), .val (.ref y10), .val (.ref y11), .val (.ref y12), .val (.int (1 : Int32)), .val (.int (0 : Int32)), .val (.int (0 : Int32))] [(.int (1 : Int32))])) t_
        refine XS.istore X12.here hx rfl (hb hby at_153) rfl (l' := #[.val (.int a), .val (.int b), .val (.int (own_m a)), .val (.int (own_m b)), .val (.ref b1), .val (.ref y10), .val (.ref y11), .val (.ref y12), .val (.int (1 : Int32)), .val (.int (0 : Int32)), .val (.int (0 : Int32))]) rfl ?_
        show Steps p_.tables e_ below (T12.setTop (mkF m_ 155 #[.val (.int a), .val (.int b), .val (.int (own_m a)), .val (.int (own_m b)), .val (.ref b1), .val (.ref y10), .val (.ref y11), .val (.ref y12), .val (.int (1 : Int32)), .val (.int (0 : Int32)), .val (.int (0 : Int32))] [])) t_
        refine XS.iload X12.here hx rfl (hb hby at_155) rfl ?_
        show Steps p_.tables e_ below (T12.setTop (mkF m_ 157 #[.val (.int a), .val (.int b), .val (.int (own_m a)), .val (.int (own_m b)), .val (.ref b1), .val (.ref y10), .val (.ref y11), .val (.ref y12), .val (.int (1 : Int32)), .val (.int (0 : Int32)), .val (.int (0 : Int32))] [(.int (1 : Int32))])) t_
        refine XS.ifNo X12.here hx rfl (hb hby at_157) rfl ((if0 _ _).trans (feq (by decide : ¬ ((1 : Int32) = (0 : Int32)))).1) ?_
        show Steps p_.tables e_ below (T12.setTop (mkF m_ 160 #[.val (.int a), .val (.int b), .val (.int (own_m a)), .val (.int (own_m b)), .val (.ref b1), .val (.ref y10), .val (.ref y11), .val (.ref y12), .val (.int (1 : Int32)), .val (.int (0 : Int32)), .val (.int (0 : Int32))] [])) t_
        refine XS.iload X12.here hx rfl (hb hby at_160) rfl ?_
        show Steps p_.tables e_ below (T12.setTop (mkF m_ 162 #[.val (.int a), .val (.int b), .val (.int (own_m a)), .val (.int (own_m b)), .val (.ref b1), .val (.ref y10), .val (.ref y11), .val (.ref y12), .val (.int (1 : Int32)), .val (.int (0 : Int32)), .val (.int (0 : Int32))] [(.int (0 : Int32))])) t_
        refine XS.ifYes X12.here hx rfl (pc0 := 162) (pc' := 175) rfl (hb hby at_162) rfl ((if0 _ _).trans (teq (by decide : (0 : Int32) = (0 : Int32))).1) (by decide) (by decide) ?_
        show Steps p_.tables e_ below (T12.setTop (mkF m_ 175 #[.val (.int a), .val (.int b), .val (.int (own_m a)), .val (.int (own_m b)), .val (.ref b1), .val (.ref y10), .val (.ref y11), .val (.ref y12), .val (.int (1 : Int32)), .val (.int (0 : Int32)), .val (.int (0 : Int32))] [])) t_
        refine XS.aload X12.here hx rfl (hb hby at_175) rfl rfl ?_
        show Steps p_.tables e_ below (T12.setTop (mkF m_ 177 #[.val (.int a), .val (.int b), .val (.int (own_m a)), .val (.int (own_m b)), .val (.ref b1), .val (.ref y10), .val (.ref y11), .val (.ref y12), .val (.int (1 : Int32)), .val (.int (0 : Int32)), .val (.int (0 : Int32))] [(.ref y11)])) t_
        refine XS.aload X12.here hx rfl (hb hby at_177) rfl rfl ?_
        show Steps p_.tables e_ below (T12.setTop (mkF m_ 179 #[.val (.int a), .val (.int b), .val (.int (own_m a)), .val (.int (own_m b)), .val (.ref b1), .val (.ref y10), .val (.ref y11), .val (.ref y12), .val (.int (1 : Int32)), .val (.int (0 : Int32)), .val (.int (0 : Int32))] [(.ref y10), (.ref y11)])) t_
        refine Jvm.RoadKit.acmp (g := (mkF m_ 179 #[.val (.int a), .val (.int b), .val (.int (own_m a)), .val (.int (own_m b)), .val (.ref b1), .val (.ref y10), .val (.ref y11), .val (.ref y12), .val (.int (1 : Int32)), .val (.int (0 : Int32)), .val (.int (0 : Int32))] [(.ref y10), (.ref y11)])) X12 hx rfl rfl rfl (pc0 := 179) (pc' := 182) (same := false) rfl (hb hby at_179) rfl (decide_eq_false fun q => (Ne.symm ne_y10_y11) (Value.ref.inj q)) (by decide) (by decide) ?_
        show Steps p_.tables e_ below (T12.setTop (mkF m_ 182 #[.val (.int a), .val (.int b), .val (.int (own_m a)), .val (.int (own_m b)), .val (.ref b1), .val (.ref y10), .val (.ref y11), .val (.ref y12), .val (.int (1 : Int32)), .val (.int (0 : Int32)), .val (.int (0 : Int32))] [])) t_
        refine XS.iconst X12.here hx rfl (hb hby at_182) ?_
        show Steps p_.tables e_ below (T12.setTop (mkF m_ 183 #[.val (.int a), .val (.int b), .val (.int (own_m a)), .val (.int (own_m b)), .val (.ref b1), .val (.ref y10), .val (.ref y11), .val (.ref y12), .val (.int (1 : Int32)), .val (.int (0 : Int32)), .val (.int (0 : Int32))] [(.int (1 : Int32))])) t_
        refine XS.goto X12.here hx rfl (pc0 := 183) (pc' := 187) rfl (hb hby at_183) (by decide) (by decide) ?_
        show Steps p_.tables e_ below (T12.setTop (mkF m_ 187 #[.val (.int a), .val (.int b), .val (.int (own_m a)), .val (.int (own_m b)), .val (.ref b1), .val (.ref y10), .val (.ref y11), .val (.ref y12), .val (.int (1 : Int32)), .val (.int (0 : Int32)), .val (.int (0 : Int32))] [(.int (1 : Int32))])) t_
        refine XS.istore X12.here hx rfl (hb hby at_187) rfl (l' := #[.val (.int a), .val (.int b), .val (.int (own_m a)), .val (.int (own_m b)), .val (.ref b1), .val (.ref y10), .val (.ref y11), .val (.ref y12), .val (.int (1 : Int32)), .val (.int (0 : Int32)), .val (.int (0 : Int32))]) rfl ?_
        show Steps p_.tables e_ below (T12.setTop (mkF m_ 189 #[.val (.int a), .val (.int b), .val (.int (own_m a)), .val (.int (own_m b)), .val (.ref b1), .val (.ref y10), .val (.ref y11), .val (.ref y12), .val (.int (1 : Int32)), .val (.int (0 : Int32)), .val (.int (0 : Int32))] [])) t_
        refine XS.iload X12.here hx rfl (hb hby at_189) rfl ?_
        show Steps p_.tables e_ below (T12.setTop (mkF m_ 191 #[.val (.int a), .val (.int b), .val (.int (own_m a)), .val (.int (own_m b)), .val (.ref b1), .val (.ref y10), .val (.ref y11), .val (.ref y12), .val (.int (1 : Int32)), .val (.int (0 : Int32)), .val (.int (0 : Int32))] [(.int (1 : Int32))])) t_
        refine XS.ifNo X12.here hx rfl (hb hby at_191) rfl ((if0 _ _).trans (feq (by decide : ¬ ((1 : Int32) = (0 : Int32)))).1) ?_
        show Steps p_.tables e_ below (T12.setTop (mkF m_ 194 #[.val (.int a), .val (.int b), .val (.int (own_m a)), .val (.int (own_m b)), .val (.ref b1), .val (.ref y10), .val (.ref y11), .val (.ref y12), .val (.int (1 : Int32)), .val (.int (0 : Int32)), .val (.int (0 : Int32))] [])) t_
        refine XS.iload X12.here hx rfl (hb hby at_194) rfl ?_
        show Steps p_.tables e_ below (T12.setTop (mkF m_ 196 #[.val (.int a), .val (.int b), .val (.int (own_m a)), .val (.int (own_m b)), .val (.ref b1), .val (.ref y10), .val (.ref y11), .val (.ref y12), .val (.int (1 : Int32)), .val (.int (0 : Int32)), .val (.int (0 : Int32))] [(.int (0 : Int32))])) t_
        refine XS.ifYes X12.here hx rfl (pc0 := 196) (pc' := 209) rfl (hb hby at_196) rfl ((if0 _ _).trans (teq (by decide : (0 : Int32) = (0 : Int32))).1) (by decide) (by decide) ?_
        show Steps p_.tables e_ below (T12.setTop (mkF m_ 209 #[.val (.int a), .val (.int b), .val (.int (own_m a)), .val (.int (own_m b)), .val (.ref b1), .val (.ref y10), .val (.ref y11), .val (.ref y12), .val (.int (1 : Int32)), .val (.int (0 : Int32)), .val (.int (0 : Int32))] [])) t_
        refine XS.aload X12.here hx rfl (hb hby at_209) rfl rfl ?_
        show Steps p_.tables e_ below (T12.setTop (mkF m_ 211 #[.val (.int a), .val (.int b), .val (.int (own_m a)), .val (.int (own_m b)), .val (.ref b1), .val (.ref y10), .val (.ref y11), .val (.ref y12), .val (.int (1 : Int32)), .val (.int (0 : Int32)), .val (.int (0 : Int32))] [(.ref y12)])) t_
        refine XS.aload X12.here hx rfl (hb hby at_211) rfl rfl ?_
        show Steps p_.tables e_ below (T12.setTop (mkF m_ 213 #[.val (.int a), .val (.int b), .val (.int (own_m a)), .val (.int (own_m b)), .val (.ref b1), .val (.ref y10), .val (.ref y11), .val (.ref y12), .val (.int (1 : Int32)), .val (.int (0 : Int32)), .val (.int (0 : Int32))] [(.ref y11), (.ref y12)])) t_
        refine Jvm.RoadKit.acmp (g := (mkF m_ 213 #[.val (.int a), .val (.int b), .val (.int (own_m a)), .val (.int (own_m b)), .val (.ref b1), .val (.ref y10), .val (.ref y11), .val (.ref y12), .val (.int (1 : Int32)), .val (.int (0 : Int32)), .val (.int (0 : Int32))] [(.ref y11), (.ref y12)])) X12 hx rfl rfl rfl (pc0 := 213) (pc' := 216) (same := false) rfl (hb hby at_213) rfl (decide_eq_false fun q => (Ne.symm ne_y11_y12) (Value.ref.inj q)) (by decide) (by decide) ?_
        show Steps p_.tables e_ below (T12.setTop (mkF m_ 216 #[.val (.int a), .val (.int b), .val (.int (own_m a)), .val (.int (own_m b)), .val (.ref b1), .val (.ref y10), .val (.ref y11), .val (.ref y12), .val (.int (1 : Int32)), .val (.int (0 : Int32)), .val (.int (0 : Int32))] [])) t_
        refine XS.iconst X12.here hx rfl (hb hby at_216) ?_
        show Steps p_.tables e_ below (T12.setTop (mkF m_ 217 #[.val (.int a), .val (.int b), .val (.int (own_m a)), .val (.int (own_m b)), .val (.ref b1), .val (.ref y10), .val (.ref y11), .val (.ref y12), .val (.int (1 : Int32)), .val (.int (0 : Int32)), .val (.int (0 : Int32))] [(.int (1 : Int32))])) t_
        refine XS.goto X12.here hx rfl (pc0 := 217) (pc' := 221) rfl (hb hby at_217) (by decide) (by decide) ?_
        show Steps p_.tables e_ below (T12.setTop (mkF m_ 221 #[.val (.int a), .val (.int b), .val (.int (own_m a)), .val (.int (own_m b)), .val (.ref b1), .val (.ref y10), .val (.ref y11), .val (.ref y12), .val (.int (1 : Int32)), .val (.int (0 : Int32)), .val (.int (0 : Int32))] [(.int (1 : Int32))])) t_
        refine XS.istore X12.here hx rfl (hb hby at_221) rfl (l' := #[.val (.int a), .val (.int b), .val (.int (own_m a)), .val (.int (own_m b)), .val (.ref b1), .val (.ref y10), .val (.ref y11), .val (.ref y12), .val (.int (1 : Int32)), .val (.int (0 : Int32)), .val (.int (0 : Int32))]) rfl ?_
        show Steps p_.tables e_ below (T12.setTop (mkF m_ 223 #[.val (.int a), .val (.int b), .val (.int (own_m a)), .val (.int (own_m b)), .val (.ref b1), .val (.ref y10), .val (.ref y11), .val (.ref y12), .val (.int (1 : Int32)), .val (.int (0 : Int32)), .val (.int (0 : Int32))] [])) t_
        refine XS.iload X12.here hx rfl (hb hby at_223) rfl ?_
        show Steps p_.tables e_ below (T12.setTop (mkF m_ 225 #[.val (.int a), .val (.int b), .val (.int (own_m a)), .val (.int (own_m b)), .val (.ref b1), .val (.ref y10), .val (.ref y11), .val (.ref y12), .val (.int (1 : Int32)), .val (.int (0 : Int32)), .val (.int (0 : Int32))] [(.int (1 : Int32))])) t_
        exact k_
      refine own_retN X12 hx hlk (t := .boolean) hret (by simp) (hb hby at_225) (by decide) (by decide) ?_
      exact ⟨rfl, N12⟩
    · refine own_callV X10 hx hZ (y := (⟨"com/example/wiry_producer/wiryproducer/command/ReusedArrays", "of", "(I)[B"⟩ : MethodName)) (z := (⟨"com/example/wiry_producer/wiryproducer/command/ReusedArrays", "of", "(I)[B"⟩ : MethodName)) hown (hw _ (List.mem_of_getElem? (i := 13) rfl)) (hw _ (List.mem_of_getElem? (i := 14) rfl)) (notFace_of_selects (args := #[]) (mvT hZ (hw _ (List.mem_of_getElem? (i := 16) rfl)))) (hw _ (List.mem_of_getElem? (i := 16) rfl)) (hw _ (List.mem_of_getElem? (i := 15) rfl)) (hw _ (List.mem_of_getElem? (i := 2) rfl)) (hw _ (List.mem_of_getElem? (i := 17) rfl)) (by decide) b1 [(.int (own_m b))] [] E_b1 (rm3A l Z a0 hw b1 (own_m b) (own_mn b) T10.heap n0 Z0 (own_m3 b) rfl (own_m1 b) (own_m4 b) h2) 0 (by decide) (by decide) rfl (by rw [hml]; rfl) (lenOf own_pd1 rfl) rfl (Nat.le_of_eq rfl) (hb hby at_32) (by decide) (by decide) ?_
      intro v13 T13 L13 X13 q13
      obtain ⟨y13, kb13, rfl, g_y13, sz13, N13q, K13, Aq13⟩ := q13
      have N13 := Fr.app N10 N13q
      have ne_b1_y13 : b1 ≠ y13 := Nat.ne_of_lt (Nat.lt_of_lt_of_le E_b1.lt sz13)
      have ne_tt_y13 : tt ≠ y13 := Nat.ne_of_lt (Nat.lt_of_lt_of_le A_tt.lt sz13)
      have ne_y10_y13 : y10 ≠ y13 := Nat.ne_of_lt (Nat.lt_of_lt_of_le A_y10.lt sz13)
      replace E_b1 := E_b1.keep K13
      replace F_byLength_b1 := F_byLength_b1.keep K13 nin0
      replace A_tt := A_tt.keep K13 nin0
      replace A_y10 := A_y10.keep K13 nin0
      replace Z0 : n0 ≤ T13.heap.size := Nat.le_trans Z0 K13.1
      have A_y13 := Aq13
      show own_Out p_ e_ below s_ _ _ _ T13 (mkF m_ 35 #[.val (.int a), .val (.int b), .val (.int (own_m a)), .val (.int (own_m b)), .val (.ref b1), .val (.ref y10), .unset, .unset, .unset, .unset, .unset] [(.ref y13)])
      refine own_st T13 (mkF m_ 40 #[.val (.int a), .val (.int b), .val (.int (own_m a)), .val (.int (own_m b)), .val (.ref b1), .val (.ref y10), .val (.ref y13), .unset, .unset, .unset, .unset] [(.int (own_m a)), (.ref b1)]) (fun t_ k_ => ?_) ?_
      · refine XS.astore X13.here hx rfl (hb hby at_35) rfl rfl (l' := #[.val (.int a), .val (.int b), .val (.int (own_m a)), .val (.int (own_m b)), .val (.ref b1), .val (.ref y10), .val (.ref y13), .unset, .unset, .unset, .unset]) rfl ?_
        show Steps p_.tables e_ below (T13.setTop (mkF m_ 37 #[.val (.int a), .val (.int b), .val (.int (own_m a)), .val (.int (own_m b)), .val (.ref b1), .val (.ref y10), .val (.ref y13), .unset, .unset, .unset, .unset] [])) t_
        refine XS.aload X13.here hx rfl (hb hby at_37) rfl rfl ?_
        show Steps p_.tables e_ below (T13.setTop (mkF m_ 39 #[.val (.int a), .val (.int b), .val (.int (own_m a)), .val (.int (own_m b)), .val (.ref b1), .val (.ref y10), .val (.ref y13), .unset, .unset, .unset, .unset] [(.ref b1)])) t_
        refine XS.iloadN X13.here hx rfl (hb hby at_39) rfl ?_
        show Steps p_.tables e_ below (T13.setTop (mkF m_ 40 #[.val (.int a), .val (.int b), .val (.int (own_m a)), .val (.int (own_m b)), .val (.ref b1), .val (.ref y10), .val (.ref y13), .unset, .unset, .unset, .unset] [(.int (own_m a)), (.ref b1)])) t_
        exact k_
      refine own_callV X13 hx hZ (y := (⟨"com/example/wiry_producer/wiryproducer/command/ReusedArrays", "of", "(I)[B"⟩ : MethodName)) (z := (⟨"com/example/wiry_producer/wiryproducer/command/ReusedArrays", "of", "(I)[B"⟩ : MethodName)) hown (hw _ (List.mem_of_getElem? (i := 13) rfl)) (hw _ (List.mem_of_getElem? (i := 14) rfl)) (notFace_of_selects (args := #[]) (mvT hZ (hw _ (List.mem_of_getElem? (i := 16) rfl)))) (hw _ (List.mem_of_getElem? (i := 16) rfl)) (hw _ (List.mem_of_getElem? (i := 15) rfl)) (hw _ (List.mem_of_getElem? (i := 2) rfl)) (hw _ (List.mem_of_getElem? (i := 17) rfl)) (by decide) b1 [(.int (own_m a))] [] E_b1 (rm3A l Z a0 hw b1 (own_m a) (own_mn a) T13.heap n0 Z0 (own_m3 a) rfl (own_m1 a) (own_m4 a) h1) 0 (by decide) (by decide) rfl (by rw [hml]; rfl) (lenOf own_pd1 rfl) rfl (Nat.le_of_eq rfl) (hb hby at_40) (by decide) (by decide) ?_
      intro v14 T14 L14 X14 q14
      obtain ⟨y14, kb14, rfl, g_y14, sz14, N14q, K14, Aq14⟩ := q14
      have N14 := Fr.app N13 N14q
      have ne_b1_y14 : b1 ≠ y14 := Nat.ne_of_lt (Nat.lt_of_lt_of_le E_b1.lt sz14)
      have ne_tt_y14 : tt ≠ y14 := Nat.ne_of_lt (Nat.lt_of_lt_of_le A_tt.lt sz14)
      have ne_y10_y14 : y10 ≠ y14 := Nat.ne_of_lt (Nat.lt_of_lt_of_le A_y10.lt sz14)
      have ne_y13_y14 : y13 ≠ y14 := Nat.ne_of_lt (Nat.lt_of_lt_of_le A_y13.lt sz14)
      replace E_b1 := E_b1.keep K14
      replace F_byLength_b1 := F_byLength_b1.keep K14 nin0
      replace A_tt := A_tt.keep K14 nin0
      replace A_y10 := A_y10.keep K14 nin0
      replace A_y13 := A_y13.keep K14 nin0
      replace Z0 : n0 ≤ T14.heap.size := Nat.le_trans Z0 K14.1
      have A_y14 := Aq14
      show own_Out p_ e_ below s_ _ _ _ T14 (mkF m_ 43 #[.val (.int a), .val (.int b), .val (.int (own_m a)), .val (.int (own_m b)), .val (.ref b1), .val (.ref y10), .val (.ref y13), .unset, .unset, .unset, .unset] [(.ref y14)])
      refine own_st T14 (mkF m_ 106 #[.val (.int a), .val (.int b), .val (.int (own_m a)), .val (.int (own_m b)), .val (.ref b1), .val (.ref y10), .val (.ref y13), .val (.ref y14), .val (.int (1 : Int32)), .val (.int (0 : Int32)), .unset] [(.int (own_m b)), (.int (own_m a))]) (fun t_ k_ => ?_) ?_
      · refine XS.astore X14.here hx rfl (hb hby at_43) rfl rfl (l' := #[.val (.int a), .val (.int b), .val (.int (own_m a)), .val (.int (own_m b)), .val (.ref b1), .val (.ref y10), .val (.ref y13), .val (.ref y14), .unset, .unset, .unset]) rfl ?_
        show Steps p_.tables e_ below (T14.setTop (mkF m_ 45 #[.val (.int a), .val (.int b), .val (.int (own_m a)), .val (.int (own_m b)), .val (.ref b1), .val (.ref y10), .val (.ref y13), .val (.ref y14), .unset, .unset, .unset] [])) t_
        refine XS.aload X14.here hx rfl (hb hby at_45) rfl rfl ?_
        show Steps p_.tables e_ below (T14.setTop (mkF m_ 47 #[.val (.int a), .val (.int b), .val (.int (own_m a)), .val (.int (own_m b)), .val (.ref b1), .val (.ref y10), .val (.ref y13), .val (.ref y14), .unset, .unset, .unset] [(.ref y10)])) t_
        refine XS.ifnullNo X14.here hx rfl (hb hby at_47) rfl ?_
        show Steps p_.tables e_ below (T14.setTop (mkF m_ 50 #[.val (.int a), .val (.int b), .val (.int (own_m a)), .val (.int (own_m b)), .val (.ref b1), .val (.ref y10), .val (.ref y13), .val (.ref y14), .unset, .unset, .unset] [])) t_
        refine XS.aload X14.here hx rfl (hb hby at_50) rfl rfl ?_
        show Steps p_.tables e_ below (T14.setTop (mkF m_ 52 #[.val (.int a), .val (.int b), .val (.int (own_m a)), .val (.int (own_m b)), .val (.ref b1), .val (.ref y10), .val (.ref y13), .val (.ref y14), .unset, .unset, .unset] [(.ref y13)])) t_
        refine XS.ifnullNo X14.here hx rfl (hb hby at_52) rfl ?_
        show Steps p_.tables e_ below (T14.setTop (mkF m_ 55 #[.val (.int a), .val (.int b), .val (.int (own_m a)), .val (.int (own_m b)), .val (.ref b1), .val (.ref y10), .val (.ref y13), .val (.ref y14), .unset, .unset, .unset] [])) t_
        refine XS.aload X14.here hx rfl (hb hby at_55) rfl rfl ?_
        show Steps p_.tables e_ below (T14.setTop (mkF m_ 57 #[.val (.int a), .val (.int b), .val (.int (own_m a)), .val (.int (own_m b)), .val (.ref b1), .val (.ref y10), .val (.ref y13), .val (.ref y14), .unset, .unset, .unset] [(.ref y14)])) t_
        refine XS.ifnonnullYes X14.here hx rfl (pc0 := 57) (pc' := 62) rfl (hb hby at_57) rfl (by decide) (by decide) ?_
        show Steps p_.tables e_ below (T14.setTop (mkF m_ 62 #[.val (.int a), .val (.int b), .val (.int (own_m a)), .val (.int (own_m b)), .val (.ref b1), .val (.ref y10), .val (.ref y13), .val (.ref y14), .unset, .unset, .unset] [])) t_
        refine XS.aload X14.here hx rfl (hb hby at_62) rfl rfl ?_
        show Steps p_.tables e_ below (T14.setTop (mkF m_ 64 #[.val (.int a), .val (.int b), .val (.int (own_m a)), .val (.int (own_m b)), .val (.ref b1), .val (.ref y10), .val (.ref y13), .val (.ref y14), .unset, .unset, .unset] [(.ref y10)])) t_
        refine own_len X14 hx hZ rfl A_y10 (hb hby at_64) (own_m a) (own_m1 a) _ ?_
        show Steps p_.tables e_ below (T14.setTop (mkF m_ 65 #[.val (.int a), .val (.int b), .val (.int (own_m a)), .val (.int (own_m b)), .val (.ref b1), .val (.ref y10), .val (.ref y13), .val (.ref y14), .unset, .unset, .unset] [(.int (own_m a))])) t_
        refine XS.iloadN X14.here hx rfl (hb hby at_65) rfl ?_
        show Steps p_.tables e_ below (T14.setTop (mkF m_ 66 #[.val (.int a), .val (.int b), .val (.int (own_m a)), .val (.int (own_m b)), .val (.ref b1), .val (.ref y10), .val (.ref y13), .val (.ref y14), .unset, .unset, .unset] [(.int (own_m a)), (.int (own_m a))])) t_
        refine XS.icmpNo X14.here hx rfl (hb hby at_66) rfl (teq (rfl : (own_m a) = (own_m a))).2 ?_
        show Steps p_.tables e_ below (T14.setTop (mkF m_ 69 #[.val (.int a), .val (.int b), .val (.int (own_m a)), .val (.int (own_m b)), .val (.ref b1), .val (.ref y10), .val (.ref y13), .val (.ref y14), .unset, .unset, .unset] [])) t_
        refine XS.aload X14.here hx rfl (hb hby at_69) rfl rfl ?_
        show Steps p_.tables e_ below (T14.setTop (mkF m_ 71 #[.val (.int a), .val (.int b), .val (.int (own_m a)), .val (.int (own_m b)), .val (.ref b1), .val (.ref y10), .val (.ref y13), .val (.ref y14), .unset, .unset, .unset] [(.ref y13)])) t_
        refine own_len X14 hx hZ rfl A_y13 (hb hby at_71) (own_m b) (own_m1 b) _ ?_
        show Steps p_.tables e_ below (T14.setTop (mkF m_ 72 #[.val (.int a), .val (.int b), .val (.int (own_m a)), .val (.int (own_m b)), .val (.ref b1), .val (.ref y10), .val (.ref y13), .val (.ref y14), .unset, .unset, .unset] [(.int (own_m b))])) t_
        refine XS.iloadN X14.here hx rfl (hb hby at_72) rfl ?_
        show Steps p_.tables e_ below (T14.setTop (mkF m_ 73 #[.val (.int a), .val (.int b), .val (.int (own_m a)), .val (.int (own_m b)), .val (.ref b1), .val (.ref y10), .val (.ref y13), .val (.ref y14), .unset, .unset, .unset] [(.int (own_m b)), (.int (own_m b))])) t_
        refine XS.icmpNo X14.here hx rfl (hb hby at_73) rfl (teq (rfl : (own_m b) = (own_m b))).2 ?_
        show Steps p_.tables e_ below (T14.setTop (mkF m_ 76 #[.val (.int a), .val (.int b), .val (.int (own_m a)), .val (.int (own_m b)), .val (.ref b1), .val (.ref y10), .val (.ref y13), .val (.ref y14), .unset, .unset, .unset] [])) t_
        refine XS.aload X14.here hx rfl (hb hby at_76) rfl rfl ?_
        show Steps p_.tables e_ below (T14.setTop (mkF m_ 78 #[.val (.int a), .val (.int b), .val (.int (own_m a)), .val (.int (own_m b)), .val (.ref b1), .val (.ref y10), .val (.ref y13), .val (.ref y14), .unset, .unset, .unset] [(.ref y14)])) t_
        refine own_len X14 hx hZ rfl A_y14 (hb hby at_78) (own_m a) (own_m1 a) _ ?_
        show Steps p_.tables e_ below (T14.setTop (mkF m_ 79 #[.val (.int a), .val (.int b), .val (.int (own_m a)), .val (.int (own_m b)), .val (.ref b1), .val (.ref y10), .val (.ref y13), .val (.ref y14), .unset, .unset, .unset] [(.int (own_m a))])) t_
        refine XS.iloadN X14.here hx rfl (hb hby at_79) rfl ?_
        show Steps p_.tables e_ below (T14.setTop (mkF m_ 80 #[.val (.int a), .val (.int b), .val (.int (own_m a)), .val (.int (own_m b)), .val (.ref b1), .val (.ref y10), .val (.ref y13), .val (.ref y14), .unset, .unset, .unset] [(.int (own_m a)), (.int (own_m a))])) t_
        refine XS.icmpNo X14.here hx rfl (hb hby at_80) rfl (teq (rfl : (own_m a) = (own_m a))).2 ?_
        show Steps p_.tables e_ below (T14.setTop (mkF m_ 83 #[.val (.int a), .val (.int b), .val (.int (own_m a)), .val (.int (own_m b)), .val (.ref b1), .val (.ref y10), .val (.ref y13), .val (.ref y14), .unset, .unset, .unset] [])) t_
        refine XS.iconst X14.here hx rfl (hb hby at_83) ?_
        show Steps p_.tables e_ below (T14.setTop (mkF m_ 84 #[.val (.int a), .val (.int b), .val (.int (own_m a)), .val (.int (own_m b)), .val (.ref b1), .val (.ref y10), .val (.ref y13), .val (.ref y14), .unset, .unset, .unset] [(.int (1 : Int32))])) t_
        refine XS.goto X14.here hx rfl (pc0 := 84) (pc' := 88) rfl (hb hby at_84) (by decide) (by decide) ?_
        show Steps p_.tables e_ below (T14.setTop (mkF m_ 88 #[.val (.int a), .val (.int b), .val (.int (own_m a)), .val (.int (own_m b)), .val (.ref b1), .val (.ref y10), .val (.ref y13), .val (.ref y14), .unset, .unset, .unset] [(.int (1 : Int32))])) t_
        refine XS.istore X14.here hx rfl (hb hby at_88) rfl (l' := #[.val (.int a), .val (.int b), .val (.int (own_m a)), .val (.int (own_m b)), .val (.ref b1), .val (.ref y10), .val (.ref y13), .val (.ref y14), .val (.int (1 : Int32)), .unset, .unset]) rfl ?_
        show Steps p_.tables e_ below (T14.setTop (mkF m_ 90 #[.val (.int a), .val (.int b), .val (.int (own_m a)), .val (.int (own_m b)), .val (.ref b1), .val (.ref y10), .val (.ref y13), .val (.ref y14), .val (.int (1 : Int32)), .unset, .unset] [])) t_
        refine XS.iloadN X14.here hx rfl (hb hby at_90) rfl ?_
        show Steps p_.tables e_ below (T14.setTop (mkF m_ 91 #[.val (.int a), .val (.int b), .val (.int (own_m a)), .val (.int (own_m b)), .val (.ref b1), .val (.ref y10), .val (.ref y13), .val (.ref y14), .val (.int (1 : Int32)), .unset, .unset] [(.int (own_m a))])) t_
        refine XS.sipush X14.here hx rfl (hb hby at_91) ?_
        show Steps p_.tables e_ below (T14.setTop (mkF m_ 94 #[.val (.int a), .val (.int b), .val (.int (own_m a)), .val (.int (own_m b)), .val (.ref b1), .val (.ref y10), .val (.ref y13), .val (.ref y14), .val (.int (1 : Int32)), .unset, .unset] [(.int (1024 : Int32)), (.int (own_m a))])) t_
        refine XS.icmpYes X14.here hx rfl (pc0 := 94) (pc' := 101) rfl (hb hby at_94) rfl (flt (h1 : ¬ ((own_m a) < (1024 : Int32)))).2.1 (by decide) (by decide) ?_
        show Steps p_.tables e_ below (T14.setTop (mkF m_ 101 #[.val (.int a), .val (.int b), .val (.int (own_m a)), .val (.int (own_m b)), .val (.ref b1), .val (.ref y10), .val (.ref y13), .val (.ref y14), .val (.int (1 : Int32)), .unset, .unset] [])) t_
        refine XS.iconst X14.here hx rfl (hb hby at_101) ?_
        show Steps p_.tables e_ below (T14.setTop (mkF m_ 102 #[.val (.int a), .val (.int b), .val (.int (own_m a)), .val (.int (own_m b)), .val (.ref b1), .val (.ref y10), .val (.ref y13), .val (.ref y14), .val (.int (1 : Int32)), .unset, .unset] [(.int (0 : Int32))])) t_
        refine XS.istore X14.here hx rfl (hb hby at_102) rfl (l' := #[.val (.int a), .val (.int b), .val (.int (own_m a)), .val (.int (own_m b)), .val (.ref b1), .val (.ref y10), .val (.ref y13), .val (.ref y14), .val (.int (1 : Int32)), .val (.int (0 : Int32)), .unset]) rfl ?_
        show Steps p_.tables e_ below (T14.setTop (mkF m_ 104 #[.val (.int a), .val (.int b), .val (.int (own_m a)), .val (.int (own_m b)), .val (.ref b1), .val (.ref y10), .val (.ref y13), .val (.ref y14), .val (.int (1 : Int32)), .val (.int (0 : Int32)), .unset] [])) t_
        refine XS.iloadN X14.here hx rfl (hb hby at_104) rfl ?_
        show Steps p_.tables e_ below (T14.setTop (mkF m_ 105 #[.val (.int a), .val (.int b), .val (.int (own_m a)), .val (.int (own_m b)), .val (.ref b1), .val (.ref y10), .val (.ref y13), .val (.ref y14), .val (.int (1 : Int32)), .val (.int (0 : Int32)), .unset] [(.int (own_m a))])) t_
        refine XS.iloadN X14.here hx rfl (hb hby at_105) rfl ?_
        show Steps p_.tables e_ below (T14.setTop (mkF m_ 106 #[.val (.int a), .val (.int b), .val (.int (own_m a)), .val (.int (own_m b)), .val (.ref b1), .val (.ref y10), .val (.ref y13), .val (.ref y14), .val (.int (1 : Int32)), .val (.int (0 : Int32)), .unset] [(.int (own_m b)), (.int (own_m a))])) t_
        exact k_
      by_cases hc106 : (own_m a) = (own_m b)
      · refine own_st T14 (mkF m_ 109 #[.val (.int a), .val (.int b), .val (.int (own_m a)), .val (.int (own_m b)), .val (.ref b1), .val (.ref y10), .val (.ref y13), .val (.ref y14), .val (.int (1 : Int32)), .val (.int (0 : Int32)), .unset] []) (fun t_ k_ => XS.icmpNo X14.here hx rfl (hb hby at_106) rfl (teq hc106).2 k_) ?_
        refine own_st T14 (mkF m_ 225 #[.val (.int a), .val (.int b), .val (.int (own_m a)), .val (.int (own_m b)), .val (.ref b1), .val (.ref y10), .val (.ref y13), .val (.ref y14), .val (.int (1 : Int32)), .val (.int (0 : Int32)), .val (.int (0 : Int32))] [(.int (1 : Int32))]) (fun t_ k_ => ?_) ?_
        · refine XS.iload X14.here hx rfl (hb hby at_109) rfl ?_
          show Steps p_.tables e_ below (T14.setTop (mkF m_ 111 #[.val (.int a), .val (.int b), .val (.int (own_m a)), .val (.int (own_m b)), .val (.ref b1), .val (.ref y10), .val (.ref y13), .val (.ref y14), .val (.int (1 : Int32)), .val (.int (0 : Int32)), .unset] [(.int (0 : Int32))])) t_
          refine XS.ifYes X14.here hx rfl (pc0 := 111) (pc' := 118) rfl (hb hby at_111) rfl ((if0 _ _).trans (teq (by decide : (0 : Int32) = (0 : Int32))).1) (by decide) (by decide) ?_
          show Steps p_.tables e_ below (T14.setTop (mkF m_ 118 #[.val (.int a), .val (.int b), .val (.int (own_m a)), .val (.int (own_m b)), .val (.ref b1), .val (.ref y10), .val (.ref y13), .val (.ref y14), .val (.int (1 : Int32)), .val (.int (0 : Int32)), .unset] [])) t_
          refine XS.iconst X14.here hx rfl (hb hby at_118) ?_
          show Steps p_.tables e_ below (T14.setTop (mkF m_ 119 #[.val (.int a), .val (.int b), .val (.int (own_m a)), .val (.int (own_m b)), .val (.ref b1), .val (.ref y10), .val (.ref y13), .val (.ref y14), .val (.int (1 : Int32)), .val (.int (0 : Int32)), .unset] [(.int (0 : Int32))])) t_
          refine XS.istore X14.here hx rfl (hb hby at_119) rfl (l' := #[.val (.int a), .val (.int b), .val (.int (own_m a)), .val (.int (own_m b)), .val (.ref b1), .val (.ref y10), .val (.ref y13), .val (.ref y14), .val (.int (1 : Int32)), .val (.int (0 : Int32)), .val (.int (0 : Int32))]) rfl ?_
          show Steps p_.tables e_ below (T14.setTop (mkF m_ 121 #[.val (.int a), .val (.int b), .val (.int (own_m a)), .val (.int (own_m b)), .val (.ref b1), .val (.ref y10), .val (.ref y13), .val (.ref y14), .val (.int (1 : Int32)), .val (.int (0 : Int32)), .val (.int (0 : Int32))] [])) t_
          refine XS.iload X14.here hx rfl (hb hby at_121) rfl ?_
          show Steps p_.tables e_ below (T14.setTop (mkF m_ 123 #[.val (.int a), .val (.int b), .val (.int (own_m a)), .val (.int (own_m b)), .val (.ref b1), .val (.ref y10), .val (.ref y13), .val (.ref y14), .val (.int (1 : Int32)), .val (.int (0 : Int32)), .val (.int (0 : Int32))] [(.int (1 : Int32))])) t_
          refine XS.ifNo X14.here hx rfl (hb hby at_123) rfl ((if0 _ _).trans (feq (by decide : ¬ ((1 : Int32) = (0 : Int32)))).1) ?_
          show Steps p_.tables e_ below (T14.setTop (mkF m_ 126 #[.val (.int a), .val (.int b), .val (.int (own_m a)), .val (.int (own_m b)), .val (.ref b1), .val (.ref y10), .val (.ref y13), .val (.ref y14), .val (.int (1 : Int32)), .val (.int (0 : Int32)), .val (.int (0 : Int32))] [])) t_
          refine XS.iload X14.here hx rfl (hb hby at_126) rfl ?_
          show Steps p_.tables e_ below (T14.setTop (mkF m_ 128 #[.val (.int a), .val (.int b), .val (.int (own_m a)), .val (.int (own_m b)), .val (.ref b1), .val (.ref y10), .val (.ref y13), .val (.ref y14), .val (.int (1 : Int32)), .val (.int (0 : Int32)), .val (.int (0 : Int32))] [(.int (0 : Int32))])) t_
          refine XS.ifYes X14.here hx rfl (pc0 := 128) (pc' := 141) rfl (hb hby at_128) rfl ((if0 _ _).trans (teq (by decide : (0 : Int32) = (0 : Int32))).1) (by decide) (by decide) ?_
          show Steps p_.tables e_ below (T14.setTop (mkF m_ 141 #[.val (.int a), .val (.int b), .val (.int (own_m a)), .val (.int (own_m b)), .val (.ref b1), .val (.ref y10), .val (.ref y13), .val (.ref y14), .val (.int (1 : Int32)), .val (.int (0 : Int32)), .val (.int (0 : Int32))] [])) t_
          refine XS.aload X14.here hx rfl (hb hby at_141) rfl rfl ?_
          show Steps p_.tables e_ below (T14.setTop (mkF m_ 143 #[.val (.int a), .val (.int b), .val (.int (own_m a)), .val (.int (own_m b)), .val (.ref b1), .val (.ref y10), .val (.ref y13), .val (.ref y14), .val (.int (1 : Int32)), .val (.int (0 : Int32)), .val (.int (0 : Int32))] [(.ref y14)])) t_
          refine XS.aload X14.here hx rfl (hb hby at_143) rfl rfl ?_
          show Steps p_.tables e_ below (T14.setTop (mkF m_ 145 #[.val (.int a), .val (.int b), .val (.int (own_m a)), .val (.int (own_m b)), .val (.ref b1), .val (.ref y10), .val (.ref y13), .val (.ref y14), .val (.int (1 : Int32)), .val (.int (0 : Int32)), .val (.int (0 : Int32))] [(.ref y10), (.ref y14)])) t_
          refine Jvm.RoadKit.acmp (g := (mkF m_ 145 #[.val (.int a), .val (.int b), .val (.int (own_m a)), .val (.int (own_m b)), .val (.ref b1), .val (.ref y10), .val (.ref y13), .val (.ref y14), .val (.int (1 : Int32)), .val (.int (0 : Int32)), .val (.int (0 : Int32))] [(.ref y10), (.ref y14)])) X14 hx rfl rfl rfl (pc0 := 145) (pc' := 148) (same := false) rfl (hb hby at_145) rfl (decide_eq_false fun q => (Ne.symm ne_y10_y14) (Value.ref.inj q)) (by decide) (by decide) ?_
          show Steps p_.tables e_ below (T14.setTop (mkF m_ 148 #[.val (.int a), .val (.int b), .val (.int (own_m a)), .val (.int (own_m b)), .val (.ref b1), .val (.ref y10), .val (.ref y13), .val (.ref y14), .val (.int (1 : Int32)), .val (.int (0 : Int32)), .val (.int (0 : Int32))] [])) t_
          refine XS.iconst X14.here hx rfl (hb hby at_148) ?_
          show Steps p_.tables e_ below (T14.setTop (mkF m_ 149 #[.val (.int a), .val (.int b), .val (.int (own_m a)), .val (.int (own_m b)), .val (.ref b1), .val (.ref y10), .val (.ref y13), .val (.ref y14), .val (.int (1 : Int32)), .val (.int (0 : Int32)), .val (.int (0 : Int32))] [(.int (1 : Int32))])) t_
          refine XS.goto X14.here hx rfl (pc0 := 149) (pc' := 153) rfl (hb hby at_149) (by decide) (by decide) ?_
          show Steps p_.tables e_ below (T14.setTop (mkF m_ 153 #[.val (.int a), .val (.int b), .val (.int (own_m a)), .val (.int (own_m b)), .val (.ref b1), .val (.ref y10), .val (.ref y13), .val (.ref y14), .val (.int (1 : Int32)), .val (.int (0 : Int32)), .val (.int (0 : Int32))] [(.int (1 : Int32))])) t_
          refine XS.istore X14.here hx rfl (hb hby at_153) rfl (l' := #[.val (.int a), .val (.int b), .val (.int (own_m a)), .val (.int (own_m b)), .val (.ref b1), .val (.ref y10), .val (.ref y13), .val (.ref y14), .val (.int (1 : Int32)), .val (.int (0 : Int32)), .val (.int (0 : Int32))]) rfl ?_
          show Steps p_.tables e_ below (T14.setTop (mkF m_ 155 #[.val (.int a), .val (.int b), .val (.int (own_m a)), .val (.int (own_m b)), .val (.ref b1), .val (.ref y10), .val (.ref y13), .val (.ref y14), .val (.int (1 : Int32)), .val (.int (0 : Int32)), .val (.int (0 : Int32))] [])) t_
          refine XS.iload X14.here hx rfl (hb hby at_155) rfl ?_
          show Steps p_.tables e_ below (T14.setTop (mkF m_ 157 #[.val (.int a), .val (.int b), .val (.int (own_m a)), .val (.int (own_m b)), .val (.ref b1), .val (.ref y10), .val (.ref y13), .val (.ref y14), .val (.int (1 : Int32)), .val (.int (0 : Int32)), .val (.int (0 : Int32))] [(.int (1 : Int32))])) t_
          refine XS.ifNo X14.here hx rfl (hb hby at_157) rfl ((if0 _ _).trans (feq (by decide : ¬ ((1 : Int32) = (0 : Int32)))).1) ?_
          show Steps p_.tables e_ below (T14.setTop (mkF m_ 160 #[.val (.int a), .val (.int b), .val (.int (own_m a)), .val (.int (own_m b)), .val (.ref b1), .val (.ref y10), .val (.ref y13), .val (.ref y14), .val (.int (1 : Int32)), .val (.int (0 : Int32)), .val (.int (0 : Int32))] [])) t_
          refine XS.iload X14.here hx rfl (hb hby at_160) rfl ?_
          show Steps p_.tables e_ below (T14.setTop (mkF m_ 162 #[.val (.int a), .val (.int b), .val (.int (own_m a)), .val (.int (own_m b)), .val (.ref b1), .val (.ref y10), .val (.ref y13), .val (.ref y14), .val (.int (1 : Int32)), .val (.int (0 : Int32)), .val (.int (0 : Int32))] [(.int (0 : Int32))])) t_
          refine XS.ifYes X14.here hx rfl (pc0 := 162) (pc' := 175) rfl (hb hby at_162) rfl ((if0 _ _).trans (teq (by decide : (0 : Int32) = (0 : Int32))).1) (by decide) (by decide) ?_
          show Steps p_.tables e_ below (T14.setTop (mkF m_ 175 #[.val (.int a), .val (.int b), .val (.int (own_m a)), .val (.int (own_m b)), .val (.ref b1), .val (.ref y10), .val (.ref y13), .val (.ref y14), .val (.int (1 : Int32)), .val (.int (0 : Int32)), .val (.int (0 : Int32))] [])) t_
          refine XS.aload X14.here hx rfl (hb hby at_175) rfl rfl ?_
          show Steps p_.tables e_ below (T14.setTop (mkF m_ 177 #[.val (.int a), .val (.int b), .val (.int (own_m a)), .val (.int (own_m b)), .val (.ref b1), .val (.ref y10), .val (.ref y13), .val (.ref y14), .val (.int (1 : Int32)), .val (.int (0 : Int32)), .val (.int (0 : Int32))] [(.ref y13)])) t_
          refine XS.aload X14.here hx rfl (hb hby at_177) rfl rfl ?_
          show Steps p_.tables e_ below (T14.setTop (mkF m_ 179 #[.val (.int a), .val (.int b), .val (.int (own_m a)), .val (.int (own_m b)), .val (.ref b1), .val (.ref y10), .val (.ref y13), .val (.ref y14), .val (.int (1 : Int32)), .val (.int (0 : Int32)), .val (.int (0 : Int32))] [(.ref y10), (.ref y13)])) t_
          refine Jvm.RoadKit.acmp (g := (mkF m_ 179 #[.val (.int a), .val (.int b), .val (.int (own_m a)), .val (.int (own_m b)), .val (.ref b1), .val (.ref y10), .val (.ref y13), .val (.ref y14), .val (.int (1 : Int32)), .val (.int (0 : Int32)), .val (.int (0 : Int32))] [(.ref y10), (.ref y13)])) X14 hx rfl rfl rfl (pc0 := 179) (pc' := 182) (same := false) rfl (hb hby at_179) rfl (decide_eq_false fun q => (Ne.symm ne_y10_y13) (Value.ref.inj q)) (by decide) (by decide) ?_
          show Steps p_.tables e_ below (T14.setTop (mkF m_ 182 #[.val (.int a), .val (.int b), .val (.int (own_m a)), .val (.int (own_m b)), .val (.ref b1), .val (.ref y10), .val (.ref y13), .val (.ref y14), .val (.int (1 : Int32)), .val (.int (0 : Int32)), .val (.int (0 : Int32))] [])) t_
          refine XS.iconst X14.here hx rfl (hb hby at_182) ?_
          show Steps p_.tables e_ below (T14.setTop (mkF m_ 183 #[.val (.int a), .val (.int b), .val (.int (own_m a)), .val (.int (own_m b)), .val (.ref b1), .val (.ref y10), .val (.ref y13), .val (.ref y14), .val (.int (1 : Int32)), .val (.int (0 : Int32)), .val (.int (0 : Int32))] [(.int (1 : Int32))])) t_
          refine XS.goto X14.here hx rfl (pc0 := 183) (pc' := 187) rfl (hb hby at_183) (by decide) (by decide) ?_
          show Steps p_.tables e_ below (T14.setTop (mkF m_ 187 #[.val (.int a), .val (.int b), .val (.int (own_m a)), .val (.int (own_m b)), .val (.ref b1), .val (.ref y10), .val (.ref y13), .val (.ref y14), .val (.int (1 : Int32)), .val (.int (0 : Int32)), .val (.int (0 : Int32))] [(.int (1 : Int32))])) t_
          refine XS.istore X14.here hx rfl (hb hby at_187) rfl (l' := #[.val (.int a), .val (.int b), .val (.int (own_m a)), .val (.int (own_m b)), .val (.ref b1), .val (.ref y10), .val (.ref y13), .val (.ref y14), .val (.int (1 : Int32)), .val (.int (0 : Int32)), .val (.int (0 : Int32))]) rfl ?_
          show Steps p_.tables e_ below (T14.setTop (mkF m_ 189 #[.val (.int a), .val (.int b), .val (.int (own_m a)), .val (.int (own_m b)), .val (.ref b1), .val (.ref y10), .val (.ref y13), .val (.ref y14), .val (.int (1 : Int32)), .val (.int (0 : Int32)), .val (.int (0 : Int32))] [])) t_
          refine XS.iload X14.here hx rfl (hb hby at_189) rfl ?_
          show Steps p_.tables e_ below (T14.setTop (mkF m_ 191 #[.val (.int a), .val (.int b), .val (.int (own_m a)), .val (.int (own_m b)), .val (.ref b1), .val (.ref y10), .val (.ref y13), .val (.ref y14), .val (.int (1 : Int32)), .val (.int (0 : Int32)), .val (.int (0 : Int32))] [(.int (1 : Int32))])) t_
          refine XS.ifNo X14.here hx rfl (hb hby at_191) rfl ((if0 _ _).trans (feq (by decide : ¬ ((1 : Int32) = (0 : Int32)))).1) ?_
          show Steps p_.tables e_ below (T14.setTop (mkF m_ 194 #[.val (.int a), .val (.int b), .val (.int (own_m a)), .val (.int (own_m b)), .val (.ref b1), .val (.ref y10), .val (.ref y13), .val (.ref y14), .val (.int (1 : Int32)), .val (.int (0 : Int32)), .val (.int (0 : Int32))] [])) t_
          refine XS.iload X14.here hx rfl (hb hby at_194) rfl ?_
          show Steps p_.tables e_ below (T14.setTop (mkF m_ 196 #[.val (.int a), .val (.int b), .val (.int (own_m a)), .val (.int (own_m b)), .val (.ref b1), .val (.ref y10), .val (.ref y13), .val (.ref y14), .val (.int (1 : Int32)), .val (.int (0 : Int32)), .val (.int (0 : Int32))] [(.int (0 : Int32))])) t_
          refine XS.ifYes X14.here hx rfl (pc0 := 196) (pc' := 209) rfl (hb hby at_196) rfl ((if0 _ _).trans (teq (by decide : (0 : Int32) = (0 : Int32))).1) (by decide) (by decide) ?_
          show Steps p_.tables e_ below (T14.setTop (mkF m_ 209 #[.val (.int a), .val (.int b), .val (.int (own_m a)), .val (.int (own_m b)), .val (.ref b1), .val (.ref y10), .val (.ref y13), .val (.ref y14), .val (.int (1 : Int32)), .val (.int (0 : Int32)), .val (.int (0 : Int32))] [])) t_
          refine XS.aload X14.here hx rfl (hb hby at_209) rfl rfl ?_
          show Steps p_.tables e_ below (T14.setTop (mkF m_ 211 #[.val (.int a), .val (.int b), .val (.int (own_m a)), .val (.int (own_m b)), .val (.ref b1), .val (.ref y10), .val (.ref y13), .val (.ref y14), .val (.int (1 : Int32)), .val (.int (0 : Int32)), .val (.int (0 : Int32))] [(.ref y14)])) t_
          refine XS.aload X14.here hx rfl (hb hby at_211) rfl rfl ?_
          show Steps p_.tables e_ below (T14.setTop (mkF m_ 213 #[.val (.int a), .val (.int b), .val (.int (own_m a)), .val (.int (own_m b)), .val (.ref b1), .val (.ref y10), .val (.ref y13), .val (.ref y14), .val (.int (1 : Int32)), .val (.int (0 : Int32)), .val (.int (0 : Int32))] [(.ref y13), (.ref y14)])) t_
          refine Jvm.RoadKit.acmp (g := (mkF m_ 213 #[.val (.int a), .val (.int b), .val (.int (own_m a)), .val (.int (own_m b)), .val (.ref b1), .val (.ref y10), .val (.ref y13), .val (.ref y14), .val (.int (1 : Int32)), .val (.int (0 : Int32)), .val (.int (0 : Int32))] [(.ref y13), (.ref y14)])) X14 hx rfl rfl rfl (pc0 := 213) (pc' := 216) (same := false) rfl (hb hby at_213) rfl (decide_eq_false fun q => (Ne.symm ne_y13_y14) (Value.ref.inj q)) (by decide) (by decide) ?_
          show Steps p_.tables e_ below (T14.setTop (mkF m_ 216 #[.val (.int a), .val (.int b), .val (.int (own_m a)), .val (.int (own_m b)), .val (.ref b1), .val (.ref y10), .val (.ref y13), .val (.ref y14), .val (.int (1 : Int32)), .val (.int (0 : Int32)), .val (.int (0 : Int32))] [])) t_
          refine XS.iconst X14.here hx rfl (hb hby at_216) ?_
          show Steps p_.tables e_ below (T14.setTop (mkF m_ 217 #[.val (.int a), .val (.int b), .val (.int (own_m a)), .val (.int (own_m b)), .val (.ref b1), .val (.ref y10), .val (.ref y13), .val (.ref y14), .val (.int (1 : Int32)), .val (.int (0 : Int32)), .val (.int (0 : Int32))] [(.int (1 : Int32))])) t_
          refine XS.goto X14.here hx rfl (pc0 := 217) (pc' := 221) rfl (hb hby at_217) (by decide) (by decide) ?_
          show Steps p_.tables e_ below (T14.setTop (mkF m_ 221 #[.val (.int a), .val (.int b), .val (.int (own_m a)), .val (.int (own_m b)), .val (.ref b1), .val (.ref y10), .val (.ref y13), .val (.ref y14), .val (.int (1 : Int32)), .val (.int (0 : Int32)), .val (.int (0 : Int32))] [(.int (1 : Int32))])) t_
          refine XS.istore X14.here hx rfl (hb hby at_221) rfl (l' := #[.val (.int a), .val (.int b), .val (.int (own_m a)), .val (.int (own_m b)), .val (.ref b1), .val (.ref y10), .val (.ref y13), .val (.ref y14), .val (.int (1 : Int32)), .val (.int (0 : Int32)), .val (.int (0 : Int32))]) rfl ?_
          show Steps p_.tables e_ below (T14.setTop (mkF m_ 223 #[.val (.int a), .val (.int b), .val (.int (own_m a)), .val (.int (own_m b)), .val (.ref b1), .val (.ref y10), .val (.ref y13), .val (.ref y14), .val (.int (1 : Int32)), .val (.int (0 : Int32)), .val (.int (0 : Int32))] [])) t_
          refine XS.iload X14.here hx rfl (hb hby at_223) rfl ?_
          show Steps p_.tables e_ below (T14.setTop (mkF m_ 225 #[.val (.int a), .val (.int b), .val (.int (own_m a)), .val (.int (own_m b)), .val (.ref b1), .val (.ref y10), .val (.ref y13), .val (.ref y14), .val (.int (1 : Int32)), .val (.int (0 : Int32)), .val (.int (0 : Int32))] [(.int (1 : Int32))])) t_
          exact k_
        refine own_retN X14 hx hlk (t := .boolean) hret (by simp) (hb hby at_225) (by decide) (by decide) ?_
        exact ⟨rfl, N14⟩
      · refine own_st T14 (mkF m_ 118 #[.val (.int a), .val (.int b), .val (.int (own_m a)), .val (.int (own_m b)), .val (.ref b1), .val (.ref y10), .val (.ref y13), .val (.ref y14), .val (.int (1 : Int32)), .val (.int (0 : Int32)), .unset] []) (fun t_ k_ => XS.icmpYes X14.here hx rfl (pc0 := 106) (pc' := 118) rfl (hb hby at_106) rfl (feq hc106).2 (by decide) (by decide) k_) ?_
        refine own_st T14 (mkF m_ 225 #[.val (.int a), .val (.int b), .val (.int (own_m a)), .val (.int (own_m b)), .val (.ref b1), .val (.ref y10), .val (.ref y13), .val (.ref y14), .val (.int (1 : Int32)), .val (.int (0 : Int32)), .val (.int (0 : Int32))] [(.int (1 : Int32))]) (fun t_ k_ => ?_) ?_
        · refine XS.iconst X14.here hx rfl (hb hby at_118) ?_
          show Steps p_.tables e_ below (T14.setTop (mkF m_ 119 #[.val (.int a), .val (.int b), .val (.int (own_m a)), .val (.int (own_m b)), .val (.ref b1), .val (.ref y10), .val (.ref y13), .val (.ref y14), .val (.int (1 : Int32)), .val (.int (0 : Int32)), .unset] [(.int (0 : Int32))])) t_
          refine XS.istore X14.here hx rfl (hb hby at_119) rfl (l' := #[.val (.int a), .val (.int b), .val (.int (own_m a)), .val (.int (own_m b)), .val (.ref b1), .val (.ref y10), .val (.ref y13), .val (.ref y14), .val (.int (1 : Int32)), .val (.int (0 : Int32)), .val (.int (0 : Int32))]) rfl ?_
          show Steps p_.tables e_ below (T14.setTop (mkF m_ 121 #[.val (.int a), .val (.int b), .val (.int (own_m a)), .val (.int (own_m b)), .val (.ref b1), .val (.ref y10), .val (.ref y13), .val (.ref y14), .val (.int (1 : Int32)), .val (.int (0 : Int32)), .val (.int (0 : Int32))] [])) t_
          refine XS.iload X14.here hx rfl (hb hby at_121) rfl ?_
          show Steps p_.tables e_ below (T14.setTop (mkF m_ 123 #[.val (.int a), .val (.int b), .val (.int (own_m a)), .val (.int (own_m b)), .val (.ref b1), .val (.ref y10), .val (.ref y13), .val (.ref y14), .val (.int (1 : Int32)), .val (.int (0 : Int32)), .val (.int (0 : Int32))] [(.int (1 : Int32))])) t_
          refine XS.ifNo X14.here hx rfl (hb hby at_123) rfl ((if0 _ _).trans (feq (by decide : ¬ ((1 : Int32) = (0 : Int32)))).1) ?_
          show Steps p_.tables e_ below (T14.setTop (mkF m_ 126 #[.val (.int a), .val (.int b), .val (.int (own_m a)), .val (.int (own_m b)), .val (.ref b1), .val (.ref y10), .val (.ref y13), .val (.ref y14), .val (.int (1 : Int32)), .val (.int (0 : Int32)), .val (.int (0 : Int32))] [])) t_
          refine XS.iload X14.here hx rfl (hb hby at_126) rfl ?_
          show Steps p_.tables e_ below (T14.setTop (mkF m_ 128 #[.val (.int a), .val (.int b), .val (.int (own_m a)), .val (.int (own_m b)), .val (.ref b1), .val (.ref y10), .val (.ref y13), .val (.ref y14), .val (.int (1 : Int32)), .val (.int (0 : Int32)), .val (.int (0 : Int32))] [(.int (0 : Int32))])) t_
          refine XS.ifYes X14.here hx rfl (pc0 := 128) (pc' := 141) rfl (hb hby at_128) rfl ((if0 _ _).trans (teq (by decide : (0 : Int32) = (0 : Int32))).1) (by decide) (by decide) ?_
          show Steps p_.tables e_ below (T14.setTop (mkF m_ 141 #[.val (.int a), .val (.int b), .val (.int (own_m a)), .val (.int (own_m b)), .val (.ref b1), .val (.ref y10), .val (.ref y13), .val (.ref y14), .val (.int (1 : Int32)), .val (.int (0 : Int32)), .val (.int (0 : Int32))] [])) t_
          refine XS.aload X14.here hx rfl (hb hby at_141) rfl rfl ?_
          show Steps p_.tables e_ below (T14.setTop (mkF m_ 143 #[.val (.int a), .val (.int b), .val (.int (own_m a)), .val (.int (own_m b)), .val (.ref b1), .val (.ref y10), .val (.ref y13), .val (.ref y14), .val (.int (1 : Int32)), .val (.int (0 : Int32)), .val (.int (0 : Int32))] [(.ref y14)])) t_
          refine XS.aload X14.here hx rfl (hb hby at_143) rfl rfl ?_
          show Steps p_.tables e_ below (T14.setTop (mkF m_ 145 #[.val (.int a), .val (.int b), .val (.int (own_m a)), .val (.int (own_m b)), .val (.ref b1), .val (.ref y10), .val (.ref y13), .val (.ref y14), .val (.int (1 : Int32)), .val (.int (0 : Int32)), .val (.int (0 : Int32))] [(.ref y10), (.ref y14)])) t_
          refine Jvm.RoadKit.acmp (g := (mkF m_ 145 #[.val (.int a), .val (.int b), .val (.int (own_m a)), .val (.int (own_m b)), .val (.ref b1), .val (.ref y10), .val (.ref y13), .val (.ref y14), .val (.int (1 : Int32)), .val (.int (0 : Int32)), .val (.int (0 : Int32))] [(.ref y10), (.ref y14)])) X14 hx rfl rfl rfl (pc0 := 145) (pc' := 148) (same := false) rfl (hb hby at_145) rfl (decide_eq_false fun q => (Ne.symm ne_y10_y14) (Value.ref.inj q)) (by decide) (by decide) ?_
          show Steps p_.tables e_ below (T14.setTop (mkF m_ 148 #[.val (.int a), .val (.int b), .val (.int (own_m a)), .val (.int (own_m b)), .val (.ref b1), .val (.ref y10), .val (.ref y13), .val (.ref y14), .val (.int (1 : Int32)), .val (.int (0 : Int32)), .val (.int (0 : Int32))] [])) t_
          refine XS.iconst X14.here hx rfl (hb hby at_148) ?_
          show Steps p_.tables e_ below (T14.setTop (mkF m_ 149 #[.val (.int a), .val (.int b), .val (.int (own_m a)), .val (.int (own_m b)), .val (.ref b1), .val (.ref y10), .val (.ref y13), .val (.ref y14), .val (.int (1 : Int32)), .val (.int (0 : Int32)), .val (.int (0 : Int32))] [(.int (1 : Int32))])) t_
          refine XS.goto X14.here hx rfl (pc0 := 149) (pc' := 153) rfl (hb hby at_149) (by decide) (by decide) ?_
          show Steps p_.tables e_ below (T14.setTop (mkF m_ 153 #[.val (.int a), .val (.int b), .val (.int (own_m a)), .val (.int (own_m b)), .val (.ref b1), .val (.ref y10), .val (.ref y13), .val (.ref y14), .val (.int (1 : Int32)), .val (.int (0 : Int32)), .val (.int (0 : Int32))] [(.int (1 : Int32))])) t_
          refine XS.istore X14.here hx rfl (hb hby at_153) rfl (l' := #[.val (.int a), .val (.int b), .val (.int (own_m a)), .val (.int (own_m b)), .val (.ref b1), .val (.ref y10), .val (.ref y13), .val (.ref y14), .val (.int (1 : Int32)), .val (.int (0 : Int32)), .val (.int (0 : Int32))]) rfl ?_
          show Steps p_.tables e_ below (T14.setTop (mkF m_ 155 #[.val (.int a), .val (.int b), .val (.int (own_m a)), .val (.int (own_m b)), .val (.ref b1), .val (.ref y10), .val (.ref y13), .val (.ref y14), .val (.int (1 : Int32)), .val (.int (0 : Int32)), .val (.int (0 : Int32))] [])) t_
          refine XS.iload X14.here hx rfl (hb hby at_155) rfl ?_
          show Steps p_.tables e_ below (T14.setTop (mkF m_ 157 #[.val (.int a), .val (.int b), .val (.int (own_m a)), .val (.int (own_m b)), .val (.ref b1), .val (.ref y10), .val (.ref y13), .val (.ref y14), .val (.int (1 : Int32)), .val (.int (0 : Int32)), .val (.int (0 : Int32))] [(.int (1 : Int32))])) t_
          refine XS.ifNo X14.here hx rfl (hb hby at_157) rfl ((if0 _ _).trans (feq (by decide : ¬ ((1 : Int32) = (0 : Int32)))).1) ?_
          show Steps p_.tables e_ below (T14.setTop (mkF m_ 160 #[.val (.int a), .val (.int b), .val (.int (own_m a)), .val (.int (own_m b)), .val (.ref b1), .val (.ref y10), .val (.ref y13), .val (.ref y14), .val (.int (1 : Int32)), .val (.int (0 : Int32)), .val (.int (0 : Int32))] [])) t_
          refine XS.iload X14.here hx rfl (hb hby at_160) rfl ?_
          show Steps p_.tables e_ below (T14.setTop (mkF m_ 162 #[.val (.int a), .val (.int b), .val (.int (own_m a)), .val (.int (own_m b)), .val (.ref b1), .val (.ref y10), .val (.ref y13), .val (.ref y14), .val (.int (1 : Int32)), .val (.int (0 : Int32)), .val (.int (0 : Int32))] [(.int (0 : Int32))])) t_
          refine XS.ifYes X14.here hx rfl (pc0 := 162) (pc' := 175) rfl (hb hby at_162) rfl ((if0 _ _).trans (teq (by decide : (0 : Int32) = (0 : Int32))).1) (by decide) (by decide) ?_
          show Steps p_.tables e_ below (T14.setTop (mkF m_ 175 #[.val (.int a), .val (.int b), .val (.int (own_m a)), .val (.int (own_m b)), .val (.ref b1), .val (.ref y10), .val (.ref y13), .val (.ref y14), .val (.int (1 : Int32)), .val (.int (0 : Int32)), .val (.int (0 : Int32))] [])) t_
          refine XS.aload X14.here hx rfl (hb hby at_175) rfl rfl ?_
          show Steps p_.tables e_ below (T14.setTop (mkF m_ 177 #[.val (.int a), .val (.int b), .val (.int (own_m a)), .val (.int (own_m b)), .val (.ref b1), .val (.ref y10), .val (.ref y13), .val (.ref y14), .val (.int (1 : Int32)), .val (.int (0 : Int32)), .val (.int (0 : Int32))] [(.ref y13)])) t_
          refine XS.aload X14.here hx rfl (hb hby at_177) rfl rfl ?_
          show Steps p_.tables e_ below (T14.setTop (mkF m_ 179 #[.val (.int a), .val (.int b), .val (.int (own_m a)), .val (.int (own_m b)), .val (.ref b1), .val (.ref y10), .val (.ref y13), .val (.ref y14), .val (.int (1 : Int32)), .val (.int (0 : Int32)), .val (.int (0 : Int32))] [(.ref y10), (.ref y13)])) t_
          refine Jvm.RoadKit.acmp (g := (mkF m_ 179 #[.val (.int a), .val (.int b), .val (.int (own_m a)), .val (.int (own_m b)), .val (.ref b1), .val (.ref y10), .val (.ref y13), .val (.ref y14), .val (.int (1 : Int32)), .val (.int (0 : Int32)), .val (.int (0 : Int32))] [(.ref y10), (.ref y13)])) X14 hx rfl rfl rfl (pc0 := 179) (pc' := 182) (same := false) rfl (hb hby at_179) rfl (decide_eq_false fun q => (Ne.symm ne_y10_y13) (Value.ref.inj q)) (by decide) (by decide) ?_
          show Steps p_.tables e_ below (T14.setTop (mkF m_ 182 #[.val (.int a), .val (.int b), .val (.int (own_m a)), .val (.int (own_m b)), .val (.ref b1), .val (.ref y10), .val (.ref y13), .val (.ref y14), .val (.int (1 : Int32)), .val (.int (0 : Int32)), .val (.int (0 : Int32))] [])) t_
          refine XS.iconst X14.here hx rfl (hb hby at_182) ?_
          show Steps p_.tables e_ below (T14.setTop (mkF m_ 183 #[.val (.int a), .val (.int b), .val (.int (own_m a)), .val (.int (own_m b)), .val (.ref b1), .val (.ref y10), .val (.ref y13), .val (.ref y14), .val (.int (1 : Int32)), .val (.int (0 : Int32)), .val (.int (0 : Int32))] [(.int (1 : Int32))])) t_
          refine XS.goto X14.here hx rfl (pc0 := 183) (pc' := 187) rfl (hb hby at_183) (by decide) (by decide) ?_
          show Steps p_.tables e_ below (T14.setTop (mkF m_ 187 #[.val (.int a), .val (.int b), .val (.int (own_m a)), .val (.int (own_m b)), .val (.ref b1), .val (.ref y10), .val (.ref y13), .val (.ref y14), .val (.int (1 : Int32)), .val (.int (0 : Int32)), .val (.int (0 : Int32))] [(.int (1 : Int32))])) t_
          refine XS.istore X14.here hx rfl (hb hby at_187) rfl (l' := #[.val (.int a), .val (.int b), .val (.int (own_m a)), .val (.int (own_m b)), .val (.ref b1), .val (.ref y10), .val (.ref y13), .val (.ref y14), .val (.int (1 : Int32)), .val (.int (0 : Int32)), .val (.int (0 : Int32))]) rfl ?_
          show Steps p_.tables e_ below (T14.setTop (mkF m_ 189 #[.val (.int a), .val (.int b), .val (.int (own_m a)), .val (.int (own_m b)), .val (.ref b1), .val (.ref y10), .val (.ref y13), .val (.ref y14), .val (.int (1 : Int32)), .val (.int (0 : Int32)), .val (.int (0 : Int32))] [])) t_
          refine XS.iload X14.here hx rfl (hb hby at_189) rfl ?_
          show Steps p_.tables e_ below (T14.setTop (mkF m_ 191 #[.val (.int a), .val (.int b), .val (.int (own_m a)), .val (.int (own_m b)), .val (.ref b1), .val (.ref y10), .val (.ref y13), .val (.ref y14), .val (.int (1 : Int32)), .val (.int (0 : Int32)), .val (.int (0 : Int32))] [(.int (1 : Int32))])) t_
          refine XS.ifNo X14.here hx rfl (hb hby at_191) rfl ((if0 _ _).trans (feq (by decide : ¬ ((1 : Int32) = (0 : Int32)))).1) ?_
          show Steps p_.tables e_ below (T14.setTop (mkF m_ 194 #[.val (.int a), .val (.int b), .val (.int (own_m a)), .val (.int (own_m b)), .val (.ref b1), .val (.ref y10), .val (.ref y13), .val (.ref y14), .val (.int (1 : Int32)), .val (.int (0 : Int32)), .val (.int (0 : Int32))] [])) t_
          refine XS.iload X14.here hx rfl (hb hby at_194) rfl ?_
          show Steps p_.tables e_ below (T14.setTop (mkF m_ 196 #[.val (.int a), .val (.int b), .val (.int (own_m a)), .val (.int (own_m b)), .val (.ref b1), .val (.ref y10), .val (.ref y13), .val (.ref y14), .val (.int (1 : Int32)), .val (.int (0 : Int32)), .val (.int (0 : Int32))] [(.int (0 : Int32))])) t_
          refine XS.ifYes X14.here hx rfl (pc0 := 196) (pc' := 209) rfl (hb hby at_196) rfl ((if0 _ _).trans (teq (by decide : (0 : Int32) = (0 : Int32))).1) (by decide) (by decide) ?_
          show Steps p_.tables e_ below (T14.setTop (mkF m_ 209 #[.val (.int a), .val (.int b), .val (.int (own_m a)), .val (.int (own_m b)), .val (.ref b1), .val (.ref y10), .val (.ref y13), .val (.ref y14), .val (.int (1 : Int32)), .val (.int (0 : Int32)), .val (.int (0 : Int32))] [])) t_
          refine XS.aload X14.here hx rfl (hb hby at_209) rfl rfl ?_
          show Steps p_.tables e_ below (T14.setTop (mkF m_ 211 #[.val (.int a), .val (.int b), .val (.int (own_m a)), .val (.int (own_m b)), .val (.ref b1), .val (.ref y10), .val (.ref y13), .val (.ref y14), .val (.int (1 : Int32)), .val (.int (0 : Int32)), .val (.int (0 : Int32))] [(.ref y14)])) t_
          refine XS.aload X14.here hx rfl (hb hby at_211) rfl rfl ?_
          show Steps p_.tables e_ below (T14.setTop (mkF m_ 213 #[.val (.int a), .val (.int b), .val (.int (own_m a)), .val (.int (own_m b)), .val (.ref b1), .val (.ref y10), .val (.ref y13), .val (.ref y14), .val (.int (1 : Int32)), .val (.int (0 : Int32)), .val (.int (0 : Int32))] [(.ref y13), (.ref y14)])) t_
          refine Jvm.RoadKit.acmp (g := (mkF m_ 213 #[.val (.int a), .val (.int b), .val (.int (own_m a)), .val (.int (own_m b)), .val (.ref b1), .val (.ref y10), .val (.ref y13), .val (.ref y14), .val (.int (1 : Int32)), .val (.int (0 : Int32)), .val (.int (0 : Int32))] [(.ref y13), (.ref y14)])) X14 hx rfl rfl rfl (pc0 := 213) (pc' := 216) (same := false) rfl (hb hby at_213) rfl (decide_eq_false fun q => (Ne.symm ne_y13_y14) (Value.ref.inj q)) (by decide) (by decide) ?_
          show Steps p_.tables e_ below (T14.setTop (mkF m_ 216 #[.val (.int a), .val (.int b), .val (.int (own_m a)), .val (.int (own_m b)), .val (.ref b1), .val (.ref y10), .val (.ref y13), .val (.ref y14), .val (.int (1 : Int32)), .val (.int (0 : Int32)), .val (.int (0 : Int32))] [])) t_
          refine XS.iconst X14.here hx rfl (hb hby at_216) ?_
          show Steps p_.tables e_ below (T14.setTop (mkF m_ 217 #[.val (.int a), .val (.int b), .val (.int (own_m a)), .val (.int (own_m b)), .val (.ref b1), .val (.ref y10), .val (.ref y13), .val (.ref y14), .val (.int (1 : Int32)), .val (.int (0 : Int32)), .val (.int (0 : Int32))] [(.int (1 : Int32))])) t_
          refine XS.goto X14.here hx rfl (pc0 := 217) (pc' := 221) rfl (hb hby at_217) (by decide) (by decide) ?_
          show Steps p_.tables e_ below (T14.setTop (mkF m_ 221 #[.val (.int a), .val (.int b), .val (.int (own_m a)), .val (.int (own_m b)), .val (.ref b1), .val (.ref y10), .val (.ref y13), .val (.ref y14), .val (.int (1 : Int32)), .val (.int (0 : Int32)), .val (.int (0 : Int32))] [(.int (1 : Int32))])) t_
          refine XS.istore X14.here hx rfl (hb hby at_221) rfl (l' := #[.val (.int a), .val (.int b), .val (.int (own_m a)), .val (.int (own_m b)), .val (.ref b1), .val (.ref y10), .val (.ref y13), .val (.ref y14), .val (.int (1 : Int32)), .val (.int (0 : Int32)), .val (.int (0 : Int32))]) rfl ?_
          show Steps p_.tables e_ below (T14.setTop (mkF m_ 223 #[.val (.int a), .val (.int b), .val (.int (own_m a)), .val (.int (own_m b)), .val (.ref b1), .val (.ref y10), .val (.ref y13), .val (.ref y14), .val (.int (1 : Int32)), .val (.int (0 : Int32)), .val (.int (0 : Int32))] [])) t_
          refine XS.iload X14.here hx rfl (hb hby at_223) rfl ?_
          show Steps p_.tables e_ below (T14.setTop (mkF m_ 225 #[.val (.int a), .val (.int b), .val (.int (own_m a)), .val (.int (own_m b)), .val (.ref b1), .val (.ref y10), .val (.ref y13), .val (.ref y14), .val (.int (1 : Int32)), .val (.int (0 : Int32)), .val (.int (0 : Int32))] [(.int (1 : Int32))])) t_
          exact k_
        refine own_retN X14 hx hlk (t := .boolean) hret (by simp) (hb hby at_225) (by decide) (by decide) ?_
        exact ⟨rfl, N14⟩
set_option maxRecDepth 65536 in
set_option maxHeartbeats 40000000 in
theorem comes_1 {Post : Tables → Env → Array Value → State → Outcome → State → Prop} (hpost : ∀ tb e args s v u, (limb_1_1.after args s (.returned v) u = true ∧ limb_1_2.after args s (.returned v) u = true ∧ True) → FrameEnd s (.returned v) u (Jvm.fieldLocs frame_1_writes args s ++ Jvm.arrayLocs frame_1_arrays args s ++ Jvm.staticLocs frame_1_statics s) 24 14400 → Post tb e args s (.returned v) u) :
    ArmFor flags0 classFile x code maxLocals ret World_1 tables_1 room_1 Calls_1 rest_1 Pre_1 Post := by
  intro l hfl _ _ p e ha hc hk s m args below hf hA hF happ hP
  obtain ⟨hcalls, hrest, hpre⟩ := hP
  obtain ⟨-, -, -, hnamed, -, -, -, hat⟩ := (Spec.applies_iff hf).mp happ
  obtain ⟨hg, hn⟩ := and_e (Cond.before_iff.mp (show (Jvm.Cond.and given_1 narrow_1).before args s = true from hpre))
  obtain ⟨c0, r0⟩ := and_e hg
  obtain ⟨k0, r1⟩ := and_e r0
  obtain ⟨w0, w1, rfl⟩ : ∃ w0 w1 : Value, args = #[w0, w1] := by
    have hs : args.size = 2 := by simpa [Cond.value, given_1] using c0
    obtain ⟨L⟩ := args
    match L, hs with
    | [w0, w1], _ => exact ⟨w0, w1, rfl⟩
  have hw := fun d (hd : d ∈ tables_1) => atoms_spec (ws := Jvm.Cond.code x code maxLocals ret :: tables_1) hat d (List.mem_cons_of_mem _ hd)
  have hfit : Fit s := fun {y c} hc i hi => by
    obtain ⟨ha, rfl⟩ := Array.getElem?_eq_some_iff.mp hc
    have q := List.all_eq_true.mp ((Array.all_eq_true_iff_forall_mem.mp hF) _ (Array.getElem_mem ha)) i (List.mem_range.mpr hi)
    simpa [Array.getElem?_eq_getElem hi] using q
  obtain ⟨i0, ei0⟩ := is_v k0
  obtain rfl : w0 = (.int i0) := Option.some.inj ei0
  obtain ⟨i1, ei1⟩ := is_v r1
  obtain rfl : w1 = (.int i1) := Option.some.inj ei1
  obtain ⟨n, o, h1, h2, h3, _, L, rfl, ⟨rfl, N⟩, hq⟩ := rm0 l s _ hw i0 i1 s.heap s.heap.size (Nat.le_refl _)  tables_1 p e ha hc hk s m _ below hf ((Spec.applies_iff_loose hf).mp happ).1 ⟨rfl, State.Warmed39.refl s, rfl⟩ trivial
  refine ⟨n, _, h1, h2, h3, hpost _ _ _ _ _ _ ⟨Cond.after_iff.mpr rfl, Cond.after_iff.mpr (eq_i res_at (Term.int_eval (1)) rfl), trivial⟩ ⟨hq.1, hq.2.1, (hq.2.2.sift fun y hy => Or.inr (N y hy)).mono (by decide) (by decide)⟩⟩
theorem main_1_1 : Claimed_1_1 := comes_1 fun _ _ _ _ _ _ h hF => ⟨h.1, hF⟩
theorem main_1_2 : Claimed_1_2 := comes_1 fun _ _ _ _ _ _ h hF => ⟨h.2.1, hF⟩
end Jvm.Pilot.@@N@@
namespace Jvm.Pilot.@@N@@
open Jvm Jvm.ClassFile Sem Op Lib Jvm.Free Jvm.Stand Jvm.Pilot.@@N@@.Jvm.D
/-! MADE BY PROGRAM (witnessworld.py) out of the Statement's table words and the real class files: 9 classes; the members and pool entries that the words name. The judged class is class 1, her method 1. -/
namespace start1
open Jvm.ClassFile
def u (s : String) : CpInfo := .utf8 (stringToUtf16 s)
/-- a pool by its gaps: so many unusable entries, then the entry; so many at the end -/
def gap : Nat → List CpInfo → List CpInfo
  | 0, r => r
  | n + 1, r => .unusable :: gap n r
def poolList (es : List (Nat × CpInfo)) (last : Nat) : List CpInfo := es.foldr (fun e r => gap e.1 (e.2 :: r)) (gap last [])
def pool (es : List (Nat × CpInfo)) (last : Nat) : Array CpInfo := ⟨poolList es last⟩
def fileOf (pool : Array CpInfo) (this : Nat) (attrs : Array Attribute := #[]) (ms : Array MethodInfo := #[]) (fl : Nat := 33) (sup : Nat := 0) (ifs : Array Nat := #[]) (fds : Array FieldInfo := #[]) : ClassFile where
  minorVersion := 0
  majorVersion := 65
  constantPool := pool
  accessFlags := fl
  thisClass := this
  superClass := sup
  interfaces := ifs
  fields := fds
  methods := ms
  attributes := attrs
def plain (name : String) (sup : Option ClassId) : Class where
  name := name
  kind := .ordinary
  loader := none
  accessFlags := 33
  super := sup
  interfaces := #[]
  cf := none
  fields := #[]
  methods := #[]
  instanceTypes := #[]
  staticTypes := #[]
  resolved := #[]
  callSites := []
  init := .initialized
  statics := none
  mirror := none

def pool0 : Array CpInfo := pool [(5, u "<init>"), (0, u "()V"), (1, .class_ 10), (1, u "java/lang/Object")] 113

def k0c0 : Code := { maxStack := 0, maxLocals := 1, code := object_method_1_code, exceptionTable := #[], attributes := #[] }
def k0m0 : Method := { name := "<init>", desc := "()V", sig := { parameters := [], returnType := none }, accessFlags := 1, code := some k0c0 }
/-- java/lang/Object -/
def k0 : Class := { plain "java/lang/Object" none with
  accessFlags := 33
  interfaces := #[]
  cf := some (fileOf pool0 8 #[] #[{ accessFlags := 1, nameIndex := 5, descriptorIndex := 6, attributes := #[] }] 33 0 #[] #[])
  fields := #[]
  methods := #[k0m0]
  instanceTypes := #[]
  staticTypes := #[]
  resolved := Array.replicate 124 none
  statics := none }

def pool1 : Array CpInfo := pool [(2, .class_ 4), (0, .nameAndType 5 6), (0, u "java/lang/Object"), (0, u "<init>"), (0, u "()V"), (0, .class_ 8), (0, u "com/example/wiry_producer/wiryproducer/command/ReusedArrays"), (0, .methodref 7 3), (0, .methodref 7 11), (0, .nameAndType 12 13), (0, u "of"), (0, u "(I)[B"), (0, .class_ 15), (0, u "com/example/wiry_producer/wiryproducer/command/ReusedArraysOfPinLaw"), (2, u "law"), (0, u "(II)Z")] 5

def k1m0 : Method := { name := "<init>", desc := "()V", sig := { parameters := [], returnType := none }, accessFlags := 1, code := none }
def k1c1 : Code := { maxStack := 2, maxLocals := 11, code := code, exceptionTable := #[], attributes := #[] }
def k1m1 : Method := { name := "law", desc := "(II)Z", sig := { parameters := [.int, .int], returnType := some .boolean }, accessFlags := 9, code := some k1c1 }
/-- com/example/wiry_producer/wiryproducer/command/ReusedArraysOfPinLaw -/
def k1 : Class := { plain "com/example/wiry_producer/wiryproducer/command/ReusedArraysOfPinLaw" (some 0) with
  accessFlags := 49
  interfaces := #[]
  cf := some (fileOf pool1 14 #[] #[{ accessFlags := 1, nameIndex := 5, descriptorIndex := 6, attributes := #[] }, { accessFlags := 9, nameIndex := 18, descriptorIndex := 19, attributes := #[] }] 49 2 #[] #[])
  fields := #[]
  methods := #[k1m0, k1m1]
  instanceTypes := #[]
  staticTypes := #[]
  resolved := Array.replicate 25 none
  statics := none }

def pool2 : Array CpInfo := pool [(1, .methodref 2 3), (0, .class_ 4), (0, .nameAndType 5 6), (0, u "java/lang/Object"), (0, u "<init>"), (0, u "()V"), (0, .class_ 8), (0, u "com/example/wiry_producer/wiryproducer/command/ReusedArrays"), (0, .class_ 10), (0, u "[B"), (0, .fieldref 7 12), (0, .nameAndType 13 14), (0, u "byLength"), (0, u "[[B"), (0, u "BOUND"), (0, u "I"), (4, u "of"), (0, u "(I)[B")] 3

def k2c0 : Code := { maxStack := 2, maxLocals := 1, code := prog_26_method_1_code, exceptionTable := #[], attributes := #[] }
def k2m0 : Method := { name := "<init>", desc := "()V", sig := { parameters := [], returnType := none }, accessFlags := 0, code := some k2c0 }
def k2c1 : Code := { maxStack := 3, maxLocals := 3, code := prog_26_method_2_code, exceptionTable := #[], attributes := #[] }
def k2m1 : Method := { name := "of", desc := "(I)[B", sig := { parameters := [.int], returnType := some (.array .byte) }, accessFlags := 0, code := some k2c1 }
/-- com/example/wiry_producer/wiryproducer/command/ReusedArrays -/
def k2 : Class := { plain "com/example/wiry_producer/wiryproducer/command/ReusedArrays" (some 0) with
  accessFlags := 48
  interfaces := #[]
  cf := some (fileOf pool2 7 #[] #[{ accessFlags := 0, nameIndex := 5, descriptorIndex := 6, attributes := #[] }, { accessFlags := 0, nameIndex := 21, descriptorIndex := 22, attributes := #[] }] 48 2 #[] #[{ accessFlags := 24, nameIndex := 15, descriptorIndex := 16, attributes := #[] }, { accessFlags := 18, nameIndex := 13, descriptorIndex := 14, attributes := #[] }])
  fields := #[{ name := "BOUND", type := .int, accessFlags := 24, slot := 0, constantValue := 0 }, { name := "byLength", type := (.array (.array .byte)), accessFlags := 18, slot := 0, constantValue := 0 }]
  methods := #[k2m0, k2m1]
  instanceTypes := #[(.array (.array .byte))]
  staticTypes := #[.int]
  resolved := Array.replicate 26 none
  statics := none }

def pool3 : Array CpInfo := pool [(1, u "java/lang/Cloneable"), (0, .class_ 1), (0, u "java/lang/Object"), (0, .class_ 3)] 3

/-- java/lang/Cloneable -/
def k3 : Class := { plain "java/lang/Cloneable" (some 0) with
  accessFlags := 1537
  interfaces := #[]
  cf := some (fileOf pool3 2 #[] #[] 1537 4 #[] #[])
  fields := #[]
  methods := #[]
  instanceTypes := #[]
  staticTypes := #[]
  resolved := Array.replicate 8 none
  statics := none }

def pool4 : Array CpInfo := pool [(1, u "java/io/Serializable"), (0, .class_ 1), (0, u "java/lang/Object"), (0, .class_ 3)] 3

/-- java/io/Serializable -/
def k4 : Class := { plain "java/io/Serializable" (some 0) with
  accessFlags := 1537
  interfaces := #[]
  cf := some (fileOf pool4 2 #[] #[] 1537 4 #[] #[])
  fields := #[]
  methods := #[]
  instanceTypes := #[]
  staticTypes := #[]
  resolved := Array.replicate 8 none
  statics := none }

/-- the primitive byte -/
def k5 : Class := { plain "byte" none with kind := .primitive 'B', accessFlags := 0x411 }
/-- [B -/
def k6 : Class := { plain "[B" (some 0) with kind := .array 5 .byte, interfaces := #[3, 4], accessFlags := 1041 }

/-- the primitive int -/
def k7 : Class := { plain "int" none with kind := .primitive 'I', accessFlags := 0x411 }
/-- [I -/
def k8 : Class := { plain "[I" (some 0) with kind := .array 7 .int, interfaces := #[3, 4], accessFlags := 1041 }

def heap : Heap := #[]
/-- [[B -/
def k9 : Class := { plain "[[B" (some 0) with kind := .array 6 (.array .byte), interfaces := #[3, 4], accessFlags := 1041 }
def classes : Array Class := #[k0, k1, k2, k3, k4, k5, k6, k7, k8, k9]
def interned : List (Array UInt16 × Addr) := []
def slotsUsed : Nat := 0
def theMethod : MethodId := ⟨1, 1⟩
def args0 : Array Value := #[.int 5, .int 300]
def aboutOver (below : List Frame) : State where
  vm := { classes := classes, interned := interned.toArray }
  heap := heap
  slotsUsed := slotsUsed
  threads := #[{ frames := .invoking theMethod args0 :: below }]
def below0 : List Frame := [.native { method := ⟨0, 0⟩, args := #[] }]
def about1 : State := aboutOver below0
def p0 : Program := .bare "" "" ""
def e0 : Env := launch0.env 0 0 0
theorem w_frames : about1.frames = Frame.invoking theMethod args0 :: below0 := rfl
set_option maxRecDepth 65536 in
theorem w_args : argsFit about1.vm theMethod args0 = true := by decide +kernel
set_option maxRecDepth 65536 in
theorem w_heap : heapFits about1 = true := by decide +kernel
set_option maxRecDepth 65536 in
theorem w_runnable : about1.curStatus? = some .runnable := by decide +kernel
set_option maxRecDepth 65536 in
theorem w_alone : about1.alone = true := by decide +kernel
set_option maxRecDepth 65536 in
theorem w_named : about1.methodNamed? x = some theMethod := by decide +kernel
set_option maxRecDepth 65536 in
theorem w_hears : about1.hears theMethod below0 = true := by decide +kernel
set_option maxRecDepth 65536 in
theorem w_ripe : about1.ripe theMethod args0 below0 = true := by decide +kernel
theorem w_running : about1.status = .running := rfl
set_option maxRecDepth 65536 in
theorem w_room : about1.hasRoom e0.platform room_1 = true :=
  launch0.hasRoom_least _ room_1 (by decide +kernel) (by decide +kernel) (by decide +kernel) (by decide +kernel) (by decide +kernel) (by decide +kernel)
theorem allAtoms_all (ts : List Jvm.Cond) (a : Array Jvm.Value) (st : Jvm.State) : (allAtoms ts).before a st = ts.all (fun c => c.before a st) := by
  induction ts with
  | nil => rfl
  | cons c t ih =>
    show (Jvm.Cond.and c (allAtoms t)).before a st = _
    rw [Jvm.Cond.before_and, ih, List.all_cons]
def words1 : List Jvm.Cond := Jvm.Cond.code x code maxLocals ret :: tables_1
/-- a 'code' word, met by the world's own term for the bytes: nothing is compared byte by byte -/
theorem code_word {y : MethodName} {bytes : ByteArray} {mx : Nat} {rt : Option FieldType} {a : Array Value} {s : State} {m : MethodId} {meth : Method} {c : Code} (h1 : s.methodNamed? y = some m) (h2 : s.vm.method? m = some meth) (h3 : meth.code = some c) (h4 : c.code = bytes)
    (h5 : (c.maxLocals == mx && c.exceptionTable.isEmpty && decide (c.maxStack ≤ mostOperands) && decide (meth.sig.returnType = rt) && !meth.locks && decide (parseMethodDescriptor y.desc = some meth.sig)) = true) : (Jvm.Cond.code y bytes mx rt).before a s = true := by
  simp only [Bool.and_eq_true, beq_iff_eq, Bool.not_eq_true', decide_eq_true_eq] at h5
  obtain ⟨⟨⟨⟨⟨g1, g2⟩, g3⟩, g4⟩, g5⟩, g6⟩ := h5
  simp [Cond.before, Cond.holds, Cond.value, h1, h2, h3, h4, g1, g2, g3, g4, g5, g6]
def isCode : Jvm.Cond → Bool
  | .code _ _ _ _ => true
  | _ => false
theorem all_split {L : List Jvm.Cond} {P : Jvm.Cond → Bool} (h1 : L.all (fun c => isCode c || P c) = true) (h2 : ∀ c ∈ L.filter isCode, P c = true) : L.all P = true := by
  refine List.all_eq_true.mpr fun c hc => ?_
  have h := List.all_eq_true.mp h1 c hc
  rcases Bool.eq_false_or_eq_true (isCode c) with hi | hi
  · exact h2 c (List.mem_filter.mpr ⟨hc, hi⟩)
  · simpa [hi] using h
set_option maxRecDepth 65536 in
theorem w_c0 : (Jvm.Cond.code x code maxLocals ret).before args0 about1 = true := code_word (m := ⟨1, 1⟩) (meth := k1m1) (c := k1c1) (by decide +kernel) rfl rfl rfl (by decide +kernel)
set_option maxRecDepth 65536 in
theorem w_c1 : (Jvm.Cond.code ({ cls := "com/example/wiry_producer/wiryproducer/command/ReusedArrays", name := "<init>", desc := "()V" } : Jvm.MethodName) prog_26_method_1_code (1 : Nat) (Option.none : Option Jvm.ClassFile.FieldType)).before args0 about1 = true := code_word (m := ⟨2, 0⟩) (meth := k2m0) (c := k2c0) (by decide +kernel) rfl rfl rfl (by decide +kernel)
set_option maxRecDepth 65536 in
theorem w_c2 : (Jvm.Cond.code ({ cls := "java/lang/Object", name := "<init>", desc := "()V" } : Jvm.MethodName) object_method_1_code (1 : Nat) (Option.none : Option Jvm.ClassFile.FieldType)).before args0 about1 = true := code_word (m := ⟨0, 0⟩) (meth := k0m0) (c := k0c0) (by decide +kernel) rfl rfl rfl (by decide +kernel)
set_option maxRecDepth 65536 in
theorem w_c3 : (Jvm.Cond.code ({ cls := "com/example/wiry_producer/wiryproducer/command/ReusedArrays", name := "of", desc := "(I)[B" } : Jvm.MethodName) prog_26_method_2_code (3 : Nat) (Option.some (Jvm.ClassFile.FieldType.array Jvm.ClassFile.FieldType.byte))).before args0 about1 = true := code_word (m := ⟨2, 1⟩) (meth := k2m1) (c := k2c1) (by decide +kernel) rfl rfl rfl (by decide +kernel)
def codes1 : List Jvm.Cond := [Jvm.Cond.code x code maxLocals ret, Jvm.Cond.code ({ cls := "com/example/wiry_producer/wiryproducer/command/ReusedArrays", name := "<init>", desc := "()V" } : Jvm.MethodName) prog_26_method_1_code (1 : Nat) (Option.none : Option Jvm.ClassFile.FieldType), Jvm.Cond.code ({ cls := "java/lang/Object", name := "<init>", desc := "()V" } : Jvm.MethodName) object_method_1_code (1 : Nat) (Option.none : Option Jvm.ClassFile.FieldType), Jvm.Cond.code ({ cls := "com/example/wiry_producer/wiryproducer/command/ReusedArrays", name := "of", desc := "(I)[B" } : Jvm.MethodName) prog_26_method_2_code (3 : Nat) (Option.some (Jvm.ClassFile.FieldType.array Jvm.ClassFile.FieldType.byte))]
set_option maxRecDepth 65536 in
theorem codes_eq : words1.filter isCode = codes1 := rfl
theorem w_codes : ∀ c ∈ words1.filter isCode, c.before args0 about1 = true := by
  rw [codes_eq]
  intro c hc
  simp only [codes1, List.mem_cons, List.not_mem_nil, or_false] at hc
  rcases hc with rfl | rfl | rfl | rfl
  · exact w_c0
  · exact w_c1
  · exact w_c2
  · exact w_c3
set_option maxRecDepth 65536 in
theorem w_t1 : words1.all (fun c => isCode c || c.before args0 about1) = true := by decide +kernel
theorem w_tables : (allAtoms (Jvm.Cond.code x code maxLocals ret :: tables_1)).before args0 about1 = true := by
  rw [allAtoms_all]
  show words1.all (fun c => c.before args0 about1) = true
  refine all_split ?_ w_codes
  rw [w_t1]
set_option maxRecDepth 65536 in
theorem w_case : (Jvm.Cond.and given_1 narrow_1).before args0 about1 = true := by decide +kernel
theorem w_applies : (headSpec (Jvm.Cond.code x code maxLocals ret :: tables_1) room_1).applies x e0.platform about1 = true :=
  (Spec.applies_iff w_frames).mpr ⟨w_running, w_runnable, w_alone, w_named, w_hears, w_ripe, w_room, w_tables⟩
theorem atStart : AtStart classFile x code maxLocals ret World_1 tables_1 room_1 Calls_1 rest_1 Pre_1 launch0 p0 e0 about1 theMethod args0 below0 :=
  ⟨lists_1, trivial, launch0.admits_env _ _ _, launch0.least_env, fairChoices_fair.cas, fairChoices_fair.clock, w_frames, w_args, w_heap, w_applies, trivial, trivial, w_case⟩
end start1
theorem witness_1 : WitnessClaimed_1 := ⟨start1.p0, start1.e0, start1.about1, start1.theMethod, start1.args0, start1.below0, start1.atStart⟩
end Jvm.Pilot.@@N@@
