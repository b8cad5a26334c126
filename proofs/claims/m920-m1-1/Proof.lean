import JvmDerived
import JvmDerived.Pilot.@@N@@Statement
import JvmDerived.Pilot.@@N@@Code
set_option linter.unusedVariables false
set_option linter.unusedSimpArgs false
@@BLOCK:NumsL.lean.txt@@
namespace Jvm.RoadKit
open Sem ClassFile Op Lib Jvm.Stand Jvm.Free Jvm.LawKit
section New
variable {p : Program} {l : Launch} {e : Env} {R : Room} {s : State} {m : MethodId} {args : Array Value} {below : List Frame} {meth : Method} {c : Code} {T : State} {locs : List Loc} {cells slots : Nat}
theorem retI (X : Stand p l e R s m args below meth c T locs cells slots) (hx : p.tables.exec = Jvm.exec) {pc : Nat} {Ls : Array Slot} {z : Int32} {rest : List Value} (hret : meth.sig.returnType = some .int) (hd : decode c.code pc = .ok (.ireturn, 1)) {fs : List Frame}
    (hl : ∀ (f : JFrame) (acts : List Action), f.method = m → f.locked = none → f.entered = [] → (doReturn e (T.setTop f) acts (some (.int z))).1 = T.setFrames fs) : Steps p.tables e below (T.setTop (mkF m pc Ls (.int z :: rest))) (T.setFrames fs) := by
  have hm' : T.vm.method? m = some meth := X.method'
  have hn : narrow .int (.int z) = .int z := rfl
  show Steps p.tables e below (T.setTop { method := m, pc := pc, locals := Ls, stack := _ :: rest, locked := none }) _
  jvm_step X.here [X.here.top, hx, hd, hm', hret, hn]
  first | (intro acts; rw [hl _ acts rfl rfl rfl]) | rw [hl _ _ rfl rfl rfl]
  exact Steps.refl _
end New
end Jvm.RoadKit
namespace Jvm.Pilot.@@N@@
open Jvm Jvm.ClassFile Sem Op Lib Jvm.Free Jvm.Stand Jvm.LawKit Jvm.RoadKit Bundle Jvm.Pilot.@@N@@.Jvm.D
section OwnKit
variable {p : Program} {l : Launch} {e : Env} {R : Room} {s : State} {m : MethodId} {args : Array Value} {below : List Frame} {meth : Method} {c : Code} {T : State} {locs : List Loc} {cells slots : Nat} {Z : State} {a0 : Array Value} {h : Heap} {Q : Option Value → Heap → List Loc → Prop} {C N : Nat} {t t' : State} {P : Outcome → State → Prop}
/-- from the state t the run comes to a return that meets Q -/
def own_Goes (p : Program) (e : Env) (below : List Frame) (P : Outcome → State → Prop) (t : State) : Prop :=
  ∃ s₂ o, Steps p.tables e below t s₂ ∧ s₂.status = .running ∧ Ended s₂ below o ∧ P o s₂
def own_P (s : State) (Q : Option Value → Heap → List Loc → Prop) (C N : Nat) : Outcome → State → Prop := fun o s₂ => ∃ v L, o = .returned v ∧ Q v s₂.heap L ∧ FrameEnd s o s₂ L C N
theorem own_by (st : ∀ target, Steps p.tables e below t' target → Steps p.tables e below t target) (k : own_Goes p e below P t') : own_Goes p e below P t := by
  obtain ⟨s₂, o, h1, h2⟩ := k
  exact ⟨s₂, o, st _ h1, h2⟩
theorem own_tr (st : Steps p.tables e below t t') (k : own_Goes p e below P t') : own_Goes p e below P t := by
  obtain ⟨s₂, o, h1, h2⟩ := k
  exact ⟨s₂, o, st.trans h1, h2⟩
theorem own_retI (X : Stand p l e R s m args below meth c T locs cells slots) (hx : p.tables.exec = Jvm.exec) (hlk : meth.locks = false) {pc : Nat} {Ls : Array Slot} {z : Int32} {rest : List Value} (hret : meth.sig.returnType = some .int) (hd : decode c.code pc = .ok (.ireturn, 1)) (hC : cells ≤ C) (hN : slots ≤ N) (hq : Q (some (.int z)) T.heap locs) : own_Goes p e below (own_P s Q C N) (T.setTop (mkF m pc Ls (.int z :: rest))) := by
  obtain ⟨fs, hr, hrun, hended, hW, hsame⟩ := X.leave (v := some (.int z)) (fun h => by rw [hret] at h; cases h) hlk
  exact ⟨_, _, retI X hx hret hd hr, hrun, hended, _, _, rfl, hq, ⟨_, rfl⟩, hW, hsame.mono hC hN⟩
theorem own_retN (X : Stand p l e R s m args below meth c T locs cells slots) (hx : p.tables.exec = Jvm.exec) (hlk : meth.locks = false) {pc : Nat} {Ls : Array Slot} {z : Int32} {ty : FieldType} {rest : List Value} (hret : meth.sig.returnType = some ty) (ht : ty = .boolean ∨ ty = .byte ∨ ty = .char ∨ ty = .short) (hd : decode c.code pc = .ok (.ireturn, 1)) (hC : cells ≤ C) (hN : slots ≤ N) (hq : Q (some (.int (nar ty z))) T.heap locs) : own_Goes p e below (own_P s Q C N) (T.setTop (mkF m pc Ls (.int z :: rest))) := by
  obtain ⟨fs, hr, hrun, hended, hW, hsame⟩ := X.leave (v := some (.int (nar ty z))) (fun h => by rw [hret] at h; cases h) hlk
  exact ⟨_, _, retN X hx hret ht hd hr, hrun, hended, _, _, rfl, hq, ⟨_, rfl⟩, hW, hsame.mono hC hN⟩
theorem own_retR (X : Stand p l e R s m args below meth c T locs cells slots) (hx : p.tables.exec = Jvm.exec) (hlk : meth.locks = false) {pc : Nat} {Ls : Array Slot} {w : Value} {ty : FieldType} {rest : List Value} (hret : meth.sig.returnType = some ty) (ht : ty.isReference = true) (hw : w.isRef = true) (hn : narrow ty w = w) (hd : decode c.code pc = .ok (.areturn, 1)) (hC : cells ≤ C) (hN : slots ≤ N) (hq : Q (some w) T.heap locs) : own_Goes p e below (own_P s Q C N) (T.setTop (mkF m pc Ls (w :: rest))) := by
  obtain ⟨fs, hr, hrun, hended, hW, hsame⟩ := X.leave (v := some w) (fun h => by rw [hret] at h; cases h) hlk
  exact ⟨_, _, retOut X hx hret hn (Or.inr (Or.inr (Or.inr (Or.inr ⟨rfl, ht, hw⟩)))) hd hr, hrun, hended, _, _, rfl, hq, ⟨_, rfl⟩, hW, hsame.mono hC hN⟩
theorem own_retV (X : Stand p l e R s m args below meth c T locs cells slots) (hx : p.tables.exec = Jvm.exec) (hlk : meth.locks = false) {pc : Nat} {Ls : Array Slot} (hret : meth.sig.returnType = none) (hd : decode c.code pc = .ok (.return_, 1)) (hC : cells ≤ C) (hN : slots ≤ N) (hq : Q none T.heap locs) : own_Goes p e below (own_P s Q C N) (T.setTop (mkF m pc Ls [])) := by
  obtain ⟨fs, hr, hrun, hended, hW, hsame⟩ := X.leave (v := none) (fun _ => rfl) hlk
  exact ⟨_, _, X.returnOut hx hret hd hr, hrun, hended, _, _, rfl, hq, ⟨_, rfl⟩, hW, hsame.mono hC hN⟩
/-- the method y, called with as' on the heap h, returns so that Qc holds -/
def own_Does (l : Launch) (Z : State) (y : MethodName) (bytes : ByteArray) (maxL : Nat) (ret : Option FieldType) (ws : List Jvm.Cond) (rm : Room) (as' : Array Value) (h : Heap) (Qc : Option Value → Heap → List Loc → Prop) : Prop :=
  MetFree l y (head1 (Jvm.Cond.code y bytes maxL ret :: ws) rm) (fun a U => a = as' ∧ Z.Warmed39 U.vm ∧ U.heap = h) (fun _ _ _ _ _ => True) (fun _ U o U' => ∃ v L, o = .returned v ∧ Qc v U'.heap L ∧ FrameEnd U o U' L rm.cells rm.slots)
theorem own_body {y : MethodName} {bytes : ByteArray} {maxL : Nat} {ret : Option FieldType} {ws : List Jvm.Cond} {rm : Room} {as' : Array Value} (hpn : plainName y.cls = true)
    (body : ∀ (p : Program) (e : Env) (s : State) (m : MethodId) (below : List Frame) (meth : Method) (c : Code) (T : State), p.tables.exec = Jvm.exec → c.code = bytes → c.maxLocals = maxL → meth.sig.returnType = ret → meth.locks = false → meth.name = y.name → s.vm.findClass y.cls = some m.cls → Z.Warmed39 s.vm → Stand p l e rm s m as' below meth c T [] 0 0 → T.heap = h → own_Goes p e below (own_P s Q rm.cells rm.slots) (T.setTop (entryFrame m as' maxL))) :
    own_Does l Z y bytes maxL ret ws rm as' h Q := by
  refine MetFree.of_bodySF (plainFor_of_name hpn) hisR ?_
  intro p e s m args below meth c s₁ Bd hml0 hP hK
  obtain ⟨rfl, hZ, hh⟩ := hP
  exact body p e s m below meth c s₁ Bd.exec Bd.bytes hml0 Bd.returns Bd.notSynchronized (name_of_methodNamed Bd.named Bd.method).1 (findClass_of_methodNamed Bd.named) hZ (Stand.of_body Bd) (by rw [← hh, Bd.state]; rfl)
theorem own_bodyP {y : MethodName} {bytes : ByteArray} {maxL : Nat} {ret : Option FieldType} {ws : List Jvm.Cond} {rm : Room} {as' : Array Value} (hpn : plainFor y = true)
    (body : ∀ (p : Program) (e : Env) (s : State) (m : MethodId) (below : List Frame) (meth : Method) (c : Code) (T : State), p.tables.exec = Jvm.exec → c.code = bytes → c.maxLocals = maxL → meth.sig.returnType = ret → meth.locks = false → meth.name = y.name → s.vm.findClass y.cls = some m.cls → Z.Warmed39 s.vm → Stand p l e rm s m as' below meth c T [] 0 0 → T.heap = h → own_Goes p e below (own_P s Q rm.cells rm.slots) (T.setTop (entryFrame m as' maxL))) :
    own_Does l Z y bytes maxL ret ws rm as' h Q := by
  refine MetFree.of_bodySF hpn hisR ?_
  intro p e s m args below meth c s₁ Bd hml0 hP hK
  obtain ⟨rfl, hZ, hh⟩ := hP
  exact body p e s m below meth c s₁ Bd.exec Bd.bytes hml0 Bd.returns Bd.notSynchronized (name_of_methodNamed Bd.named Bd.method).1 (findClass_of_methodNamed Bd.named) hZ (Stand.of_body Bd) (by rw [← hh, Bd.state]; rfl)
/-- it returns w, and nothing has been written -/
def own_Is (w : Value) (h : Heap) : Option Value → Heap → List Loc → Prop := fun v h' L => v = some w ∧ L = [] ∧ h' = h
theorem own_callS (X : Stand p l e R s m args below meth c T locs cells slots) (hx : p.tables.exec = Jvm.exec) (hZ : Z.Warmed39 s.vm) {own : String} {index : Nat} {y : MethodName} {bytes : ByteArray} {maxL : Nat} {ret : Option FieldType} {rm : Room} {argsL rest : List Value} {Qc : Option Value → Heap → List Loc → Prop} {W : Nat}
    (hown : s.vm.findClass own = some m.cls) (w1 : (Cond.methodLink own index y).before a0 Z = true) (w2 : (Cond.static y).before a0 Z = true) (w3 : (Cond.initialized y.cls).before a0 Z = true) (w4 : (Cond.code y bytes maxL ret).before a0 Z = true)
    (hy : y.cls ≠ "java/lang/invoke/MethodHandle" ∧ y.cls ≠ "java/lang/invoke/VarHandle") (eT : T.heap = h) (D : own_Does l Z y bytes maxL ret [] rm argsL.toArray h Qc)
    (hf : rm.frames + 1 ≤ R.frames) (hl : W + (maxL + 11) + rm.locals ≤ R.locals) (hc : cells + rm.cells ≤ R.cells) (hn : slots + rm.slots ≤ R.slots)
    {pc : Nat} {Ls : Array Slot} {S : List Value} (hsize : Ls.size = c.maxLocals) (hlen : ∀ sig, parseMethodDescriptor y.desc = some sig → argsL.length = sig.parameters.length) (hstack : S = argsL.reverse ++ rest) (hW : 2 * 0 + (rest.map fun v => v.category).sum ≤ W) (hd : decode c.code pc = .ok (.invokestatic index, 3))
    (k : ∀ v T' L', Stand p l e R s m args below meth c T' (locs ++ L') (cells + rm.cells) (slots + rm.slots) → Qc v T'.heap L' → own_Goes p e below P (T'.setTop (mkF m (pc + 3) Ls (v.toList ++ rest)))) :
    own_Goes p e below P (T.setTop (mkF m pc Ls S)) := by
  obtain ⟨v, _, ⟨T', L', k', n'⟩, -, X', ⟨Lc, hQ, l', y', z'⟩, st⟩ := Jvm.LawKit.callS X hx hown (mvT hZ w1) (mvT hZ w2) (mvT hZ w3) (mvT hZ w4) hy (backOf (W := W) D hZ w4 w3 hf hl) (g := mkF m pc Ls S) rfl hsize (argsL := argsL) (rest := rest) hlen hstack hW hd (fun _ _ => ⟨rfl, eT, hc, hn⟩)
  dsimp only [Pt.U, Pt.locs, Pt.cells, Pt.slots] at X' l' y' z' st hQ
  subst l' y' z'
  exact own_by st (k v T' Lc X' hQ)
theorem own_callS0 (X : Stand p l e R s m args below meth c T locs cells slots) (hx : p.tables.exec = Jvm.exec) (hZ : Z.Warmed39 s.vm) {own : String} {index : Nat} {y : MethodName} {bytes : ByteArray} {maxL : Nat} {ret : Option FieldType} {fr lo : Nat} {argsL rest : List Value} {w : Value} {W : Nat}
    (hown : s.vm.findClass own = some m.cls) (w1 : (Cond.methodLink own index y).before a0 Z = true) (w2 : (Cond.static y).before a0 Z = true) (w3 : (Cond.initialized y.cls).before a0 Z = true) (w4 : (Cond.code y bytes maxL ret).before a0 Z = true)
    (hy : y.cls ≠ "java/lang/invoke/MethodHandle" ∧ y.cls ≠ "java/lang/invoke/VarHandle") (eT : T.heap = h) (D : own_Does l Z y bytes maxL ret [] { frames := fr, cells := 0, slots := 0, locals := lo } argsL.toArray h (own_Is w h))
    (hf : fr + 1 ≤ R.frames) (hl : W + (maxL + 11) + lo ≤ R.locals) (hc : cells ≤ R.cells) (hn : slots ≤ R.slots)
    {pc : Nat} {Ls : Array Slot} {S : List Value} (hsize : Ls.size = c.maxLocals) (hlen : ∀ sig, parseMethodDescriptor y.desc = some sig → argsL.length = sig.parameters.length) (hstack : S = argsL.reverse ++ rest) (hW : 2 * 0 + (rest.map fun v => v.category).sum ≤ W) (hd : decode c.code pc = .ok (.invokestatic index, 3))
    (k : ∀ T', Stand p l e R s m args below meth c T' locs cells slots → T'.heap = h → own_Goes p e below P (T'.setTop (mkF m (pc + 3) Ls (w :: rest)))) :
    own_Goes p e below P (T.setTop (mkF m pc Ls S)) := by
  refine own_callS X hx hZ hown w1 w2 w3 w4 hy eT D hf hl hc hn hsize hlen hstack hW hd fun v T' L' X' hQ => ?_
  obtain ⟨rfl, rfl, e'⟩ := hQ
  rw [List.append_nil] at X'
  exact k T' X' e'
theorem own_callV (X : Stand p l e R s m args below meth c T locs cells slots) (hx : p.tables.exec = Jvm.exec) (hZ : Z.Warmed39 s.vm) {own K : String} {index : Nat} {y : MethodName} {bytes : ByteArray} {maxL : Nat} {ret : Option FieldType} {rm : Room} {b : Addr} {argsL rest : List Value} {Qc : Option Value → Heap → List Loc → Prop} {W : Nat}
    (hown : s.vm.findClass own = some m.cls) (w1 : (Cond.methodLink own index y).before a0 Z = true) (w2 : (Cond.declares y).before a0 Z = true) (w3 : (Cond.selects K y y).before a0 Z = true) (w4 : (Cond.instanceMethod y).before a0 Z = true) (w5 : (Cond.code y bytes maxL ret).before a0 Z = true) (w6 : (Cond.initialized y.cls).before a0 Z = true)
    (hy : y.cls ≠ "java/lang/invoke/MethodHandle" ∧ y.cls ≠ "java/lang/invoke/VarHandle") (eT : T.heap = h) (E : Exa Z h b K) (D : own_Does l Z y bytes maxL ret [] rm (.ref b :: argsL).toArray h Qc)
    (hf : rm.frames + 1 ≤ R.frames) (hl : W + (maxL + 11) + rm.locals ≤ R.locals) (hc : cells + rm.cells ≤ R.cells) (hn : slots + rm.slots ≤ R.slots)
    {pc : Nat} {Ls : Array Slot} {S : List Value} (hsize : Ls.size = c.maxLocals) (hlen : ∀ sig, parseMethodDescriptor y.desc = some sig → argsL.length = sig.parameters.length) (hstack : S = argsL.reverse ++ .ref b :: rest) (hW : 2 * 0 + (rest.map fun v => v.category).sum ≤ W) (hd : decode c.code pc = .ok (.invokevirtual index, 3))
    (k : ∀ v T' L', Stand p l e R s m args below meth c T' (locs ++ L') (cells + rm.cells) (slots + rm.slots) → Qc v T'.heap L' → own_Goes p e below P (T'.setTop (mkF m (pc + 3) Ls (v.toList ++ rest)))) :
    own_Goes p e below P (T.setTop (mkF m pc Ls S)) := by
  obtain ⟨cq, kq, qa, -, qc⟩ := isOf (T := T) hZ eT E
  obtain ⟨v, _, ⟨T', L', k', n'⟩, -, X', ⟨Lc, hQ, l', y', z'⟩, st⟩ := X.virtualBack hx (y := y) (z := y) hown (mvT hZ w1) (mvT hZ w2) (notFace_of_selects (args := #[]) (mvT hZ w3)) (mvT hZ w3) (mvT hZ w4) hy (backOf (W := W) D hZ w5 w6 hf hl) qa qc (g := mkF m pc Ls S) rfl hsize (Steps.refl _) (argsL := argsL) (rest := rest) hlen hstack hW hd (fun _ _ => ⟨rfl, eT, hc, hn⟩)
  dsimp only [Pt.U, Pt.locs, Pt.cells, Pt.slots] at X' l' y' z' st hQ
  subst l' y' z'
  exact own_tr st (k v T' Lc X' hQ)
theorem own_callV0 (X : Stand p l e R s m args below meth c T locs cells slots) (hx : p.tables.exec = Jvm.exec) (hZ : Z.Warmed39 s.vm) {own K : String} {index : Nat} {y : MethodName} {bytes : ByteArray} {maxL : Nat} {ret : Option FieldType} {fr lo : Nat} {b : Addr} {argsL rest : List Value} {w : Value} {W : Nat}
    (hown : s.vm.findClass own = some m.cls) (w1 : (Cond.methodLink own index y).before a0 Z = true) (w2 : (Cond.declares y).before a0 Z = true) (w3 : (Cond.selects K y y).before a0 Z = true) (w4 : (Cond.instanceMethod y).before a0 Z = true) (w5 : (Cond.code y bytes maxL ret).before a0 Z = true) (w6 : (Cond.initialized y.cls).before a0 Z = true)
    (hy : y.cls ≠ "java/lang/invoke/MethodHandle" ∧ y.cls ≠ "java/lang/invoke/VarHandle") (eT : T.heap = h) (E : Exa Z h b K) (D : own_Does l Z y bytes maxL ret [] { frames := fr, cells := 0, slots := 0, locals := lo } (.ref b :: argsL).toArray h (own_Is w h))
    (hf : fr + 1 ≤ R.frames) (hl : W + (maxL + 11) + lo ≤ R.locals) (hc : cells ≤ R.cells) (hn : slots ≤ R.slots)
    {pc : Nat} {Ls : Array Slot} {S : List Value} (hsize : Ls.size = c.maxLocals) (hlen : ∀ sig, parseMethodDescriptor y.desc = some sig → argsL.length = sig.parameters.length) (hstack : S = argsL.reverse ++ .ref b :: rest) (hW : 2 * 0 + (rest.map fun v => v.category).sum ≤ W) (hd : decode c.code pc = .ok (.invokevirtual index, 3))
    (k : ∀ T', Stand p l e R s m args below meth c T' locs cells slots → T'.heap = h → own_Goes p e below P (T'.setTop (mkF m (pc + 3) Ls (w :: rest)))) :
    own_Goes p e below P (T.setTop (mkF m pc Ls S)) := by
  refine own_callV X hx hZ hown w1 w2 w3 w4 w5 w6 hy eT E D hf hl hc hn hsize hlen hstack hW hd fun v T' L' X' hQ => ?_
  obtain ⟨rfl, rfl, e'⟩ := hQ
  rw [List.append_nil] at X'
  exact k T' X' e'
theorem own_getS (X : Stand p l e R s m args below meth c T locs cells slots) (hx : p.tables.exec = Jvm.exec) (hZ : Z.Warmed39 s.vm) {own O n d : String} {index : Nat} (hown : s.vm.findClass own = some m.cls) (w : (Cond.fieldLink own index O n d).before a0 Z = true) (eT : T.heap = h) {v : Value} (F : Sta Z h O n d v)
    {pc : Nat} {Ls : Array Slot} {S : List Value} (hd : decode c.code pc = .ok (.getstatic index, 3))
    (k : ∀ T', Stand p l e R s m args below meth c T' locs cells slots → T'.heap = h → own_Goes p e below P (T'.setTop (mkF m (pc + 3) Ls (v :: S)))) :
    own_Goes p e below P (T.setTop (mkF m pc Ls S)) := by
  obtain ⟨T', X', e', st⟩ := getS X hx hZ (host := "") hown w Via.refl eT F (g := mkF m pc Ls S) rfl hd
  exact own_by st (k T' X' e')
theorem own_getF (X : Stand p l e R s m args below meth c T locs cells slots) (hx : p.tables.exec = Jvm.exec) (hZ : Z.Warmed39 s.vm) {own O n d : String} {index : Nat} (hown : s.vm.findClass own = some m.cls) (w : (Cond.fieldLink own index O n d).before a0 Z = true) (eT : T.heap = h) {a : Addr} {v : Value} (F : Fld Z h a O n d v)
    {pc : Nat} {Ls : Array Slot} {S : List Value} (hd : decode c.code pc = .ok (.getfield index, 3))
    (k : ∀ T', Stand p l e R s m args below meth c T' locs cells slots → T'.heap = h → own_Goes p e below P (T'.setTop (mkF m (pc + 3) Ls (v :: S)))) :
    own_Goes p e below P (T.setTop (mkF m pc Ls (.ref a :: S))) := by
  obtain ⟨T', X', e', st⟩ := getF X hx hZ (host := "") hown (Or.inl w) Via.refl eT F (g := mkF m pc Ls (.ref a :: S)) rfl rfl hd
  exact own_by st (k T' X' e')
/-! a callee or a road that may load a String constant -/
def own_PW (s : State) (Q : Option Value → Heap → List Loc → Prop) (C N : Nat) : Outcome → State → Prop := fun o s₂ => ∃ v L, o = .returned v ∧ Q v s₂.heap L ∧ ReturnedEndW s o s₂ L C N
theorem own_endW {vm0 : Vm} {k0 : Nat} (X : Stand p l e R (s.setVm vm0) m args below meth c T locs cells slots) (hS : s.Since vm0 k0) (hk : k0 ≤ T.heap.size) (hlk : meth.locks = false) (v : Option Value) (hv : meth.sig.returnType = none → v = none) (hC : cells ≤ C) (hN : slots ≤ N) (hq : Q v T.heap locs) :
    ∃ fs, (∀ (f : JFrame) (acts : List Action), f.method = m → f.locked = none → f.entered = [] → (doReturn e (T.setTop f) acts v).1 = T.setFrames fs) ∧ ∀ t0, Steps p.tables e below t0 (T.setFrames fs) → own_Goes p e below (own_PW s Q C N) t0 := by
  obtain ⟨fs, hr, hrun, hended, -, h1, h2, h3⟩ := X.leaveW hS hk hv hlk
  exact ⟨fs, hr, fun t0 st => ⟨_, _, st, hrun, hended, _, _, rfl, hq, ⟨_, rfl⟩, h1, h2, h3.mono hC hN⟩⟩
theorem own_retNW {vm0 : Vm} {k0 : Nat} (X : Stand p l e R (s.setVm vm0) m args below meth c T locs cells slots) (hS : s.Since vm0 k0) (hk : k0 ≤ T.heap.size) (hx : p.tables.exec = Jvm.exec) (hlk : meth.locks = false) {pc : Nat} {Ls : Array Slot} {z : Int32} {ty : FieldType} {rest : List Value} (hret : meth.sig.returnType = some ty) (ht : ty = .boolean ∨ ty = .byte ∨ ty = .char ∨ ty = .short) (hd : decode c.code pc = .ok (.ireturn, 1)) (hC : cells ≤ C) (hN : slots ≤ N) (hq : Q (some (.int (nar ty z))) T.heap locs) : own_Goes p e below (own_PW s Q C N) (T.setTop (mkF m pc Ls (.int z :: rest))) := by
  obtain ⟨fs, hr, k⟩ := own_endW X hS hk hlk (some (.int (nar ty z))) (fun h => by rw [hret] at h; cases h) hC hN hq
  exact k _ (retN X hx hret ht hd hr)
theorem own_retRW {vm0 : Vm} {k0 : Nat} (X : Stand p l e R (s.setVm vm0) m args below meth c T locs cells slots) (hS : s.Since vm0 k0) (hk : k0 ≤ T.heap.size) (hx : p.tables.exec = Jvm.exec) (hlk : meth.locks = false) {pc : Nat} {Ls : Array Slot} {w : Value} {ty : FieldType} {rest : List Value} (hret : meth.sig.returnType = some ty) (ht : ty.isReference = true) (hw : w.isRef = true) (hn : narrow ty w = w) (hd : decode c.code pc = .ok (.areturn, 1)) (hC : cells ≤ C) (hN : slots ≤ N) (hq : Q (some w) T.heap locs) : own_Goes p e below (own_PW s Q C N) (T.setTop (mkF m pc Ls (w :: rest))) := by
  obtain ⟨fs, hr, k⟩ := own_endW X hS hk hlk (some w) (fun h => by rw [hret] at h; cases h) hC hN hq
  exact k _ (retOut X hx hret hn (Or.inr (Or.inr (Or.inr (Or.inr ⟨rfl, ht, hw⟩)))) hd hr)
theorem own_retVW {vm0 : Vm} {k0 : Nat} (X : Stand p l e R (s.setVm vm0) m args below meth c T locs cells slots) (hS : s.Since vm0 k0) (hk : k0 ≤ T.heap.size) (hx : p.tables.exec = Jvm.exec) (hlk : meth.locks = false) {pc : Nat} {Ls : Array Slot} (hret : meth.sig.returnType = none) (hd : decode c.code pc = .ok (.return_, 1)) (hC : cells ≤ C) (hN : slots ≤ N) (hq : Q none T.heap locs) : own_Goes p e below (own_PW s Q C N) (T.setTop (mkF m pc Ls [])) := by
  obtain ⟨fs, hr, k⟩ := own_endW X hS hk hlk none (fun _ => rfl) hC hN hq
  exact k _ (X.returnOut hx hret hd hr)
def own_DoesW (l : Launch) (Z : State) (y : MethodName) (bytes : ByteArray) (maxL : Nat) (ret : Option FieldType) (ws : List Jvm.Cond) (rm : Room) (as' : Array Value) (h : Heap) (Qc : Option Value → Heap → List Loc → Prop) : Prop :=
  MetFree l y (head1 (Jvm.Cond.code y bytes maxL ret :: ws) rm) (fun a U => a = as' ∧ Z.Warmed39 U.vm ∧ U.heap = h) (fun _ _ _ _ _ => True) (fun _ U o U' => ∃ v L, o = .returned v ∧ Qc v U'.heap L ∧ ReturnedEndW U o U' L rm.cells rm.slots)
theorem own_bodyW {y : MethodName} {bytes : ByteArray} {maxL : Nat} {ret : Option FieldType} {ws : List Jvm.Cond} {rm : Room} {as' : Array Value} (hpn : plainName y.cls = true)
    (body : ∀ (p : Program) (e : Env) (s : State) (m : MethodId) (below : List Frame) (meth : Method) (c : Code) (T : State), p.tables.exec = Jvm.exec → c.code = bytes → c.maxLocals = maxL → meth.sig.returnType = ret → meth.locks = false → meth.name = y.name → (s.setVm s.vm).vm.findClass y.cls = some m.cls → Z.Warmed39 (s.setVm s.vm).vm → s.Since s.vm 0 → Stand p l e rm (s.setVm s.vm) m as' below meth c T [] 0 0 → T.heap = h → own_Goes p e below (own_PW s Q rm.cells rm.slots) (T.setTop (entryFrame m as' maxL))) :
    own_DoesW l Z y bytes maxL ret ws rm as' h Q := by
  refine MetFree.of_bodySF (plainFor_of_name hpn) hisR ?_
  intro p e s m args below meth c s₁ Bd hml0 hP hK
  obtain ⟨rfl, hZ, hh⟩ := hP
  exact body p e s m below meth c s₁ Bd.exec Bd.bytes hml0 Bd.returns Bd.notSynchronized (name_of_methodNamed Bd.named Bd.method).1 (findClass_of_methodNamed Bd.named) hZ ((State.WarmedH.refl s).since 0) (Stand.of_body Bd) (by rw [← hh, Bd.state]; rfl)
theorem own_ldcS {vm0 : Vm} {k0 : Nat} (X : Stand p l e R (s.setVm vm0) m args below meth c T locs cells slots) (hx : p.tables.exec = Jvm.exec) (hZ : Z.Warmed39 (s.setVm vm0).vm) {own text : String} {index : Nat} (hown : (s.setVm vm0).vm.findClass own = some m.cls) (w : (Cond.stringLink own index text).before a0 Z = true) (wS : ∀ a ∈ Bundle.stringAtoms, a.before a0 Z = true)
    (eT : T.heap = h) (hS : s.Since vm0 k0) (hk : k0 ≤ h.size) {pc : Nat} {Ls : Array Slot} {S : List Value} (hd : decode c.code pc = .ok (.ldc index, 2)) {n : Nat} (hn : 4 * text.toList.length ≤ n) (hbig : n ≤ 536870912) (hc : cells + 2 ≤ R.cells) (hl : slots + (n + 4) ≤ R.slots)
    (k : ∀ (a : Addr) (T' : State) (h' : Heap) (k1 : Nat), Stand p l e R (s.setVm T'.vm) m args below meth c T' locs (cells + 2) (slots + (n + 4)) → T'.heap = h' → Ext h h' → s.Since T'.vm k1 → k1 ≤ h'.size → Z.Warmed39 (s.setVm T'.vm).vm → (s.setVm T'.vm).vm.findClass own = some m.cls → own_Goes p e below P (T'.setTop (mkF m (pc + 2) Ls (.ref a :: S)))) :
    own_Goes p e below P (T.setTop (mkF m pc Ls S)) := by
  obtain ⟨a, T', h', k1, X', e', E', hS', hk', hZ', hown', st⟩ := ldcS X hx hZ hown w wS eT hS hk (g := mkF m pc Ls S) rfl hd hn hbig hc hl
  exact own_by st (k a T' h' k1 X' e' E' hS' hk' hZ' hown')
theorem own_callSS {vm0 : Vm} {k0 : Nat} (X : Stand p l e R (s.setVm vm0) m args below meth c T locs cells slots) (hx : p.tables.exec = Jvm.exec) (hZ : Z.Warmed39 (s.setVm vm0).vm) (hS : s.Since vm0 k0) (hk : k0 ≤ T.heap.size) {own : String} {index : Nat} {y : MethodName} {bytes : ByteArray} {maxL : Nat} {ret : Option FieldType} {rm : Room} {argsL rest : List Value} {Qc : Option Value → Heap → List Loc → Prop} {W : Nat}
    (hown : (s.setVm vm0).vm.findClass own = some m.cls) (w1 : (Cond.methodLink own index y).before a0 Z = true) (w2 : (Cond.static y).before a0 Z = true) (w3 : (Cond.initialized y.cls).before a0 Z = true) (w4 : (Cond.code y bytes maxL ret).before a0 Z = true)
    (hy : y.cls ≠ "java/lang/invoke/MethodHandle" ∧ y.cls ≠ "java/lang/invoke/VarHandle") (eT : T.heap = h) (D : own_DoesW l Z y bytes maxL ret [] rm argsL.toArray h Qc)
    (hf : rm.frames + 1 ≤ R.frames) (hl : W + (maxL + 11) + rm.locals ≤ R.locals) (hc : cells + rm.cells ≤ R.cells) (hn : slots + rm.slots ≤ R.slots)
    {pc : Nat} {Ls : Array Slot} {S : List Value} (hsize : Ls.size = c.maxLocals) (hlen : ∀ sig, parseMethodDescriptor y.desc = some sig → argsL.length = sig.parameters.length) (hstack : S = argsL.reverse ++ rest) (hW : 2 * 0 + (rest.map fun v => v.category).sum ≤ W) (hd : decode c.code pc = .ok (.invokestatic index, 3))
    (k : ∀ v T' L', Stand p l e R (s.setVm T'.vm) m args below meth c T' (locs ++ L') (cells + rm.cells) (slots + rm.slots) → s.Since T'.vm T'.heap.size → Z.Warmed39 (s.setVm T'.vm).vm → (s.setVm T'.vm).vm.findClass own = some m.cls → Qc v T'.heap L' → own_Goes p e below P (T'.setTop (mkF m (pc + 3) Ls (v.toList ++ rest)))) :
    own_Goes p e below P (T.setTop (mkF m pc Ls S)) := by
  obtain ⟨v, _, ⟨T', L', k', n'⟩, -, X', hS2, hg2, ⟨Lc, hQ, l', y', z'⟩, st⟩ := callSS X hx hown (mvT hZ w1) (mvT hZ w2) (mvT hZ w3) (mvT hZ w4) hy (backOfS (W := W) D hZ w4 w3 hf hl) (g := mkF m pc Ls S) rfl hsize (argsL := argsL) (rest := rest) hlen hstack hW hd (fun _ _ => ⟨rfl, eT, hc, hn⟩)
  dsimp only [Pt.U, Pt.locs, Pt.cells, Pt.slots] at X' l' y' z' st hQ hS2 hg2
  subst l' y' z'
  obtain ⟨X2, hS3, hZ3, hown3⟩ := rebS hS hk X' hS2 hg2 hZ hown
  exact own_tr st (k v T' Lc X2 hS3 hZ3 hown3 hQ)
theorem own_callIS {vm0 : Vm} {k0 : Nat} (X : Stand p l e R (s.setVm vm0) m args below meth c T locs cells slots) (hx : p.tables.exec = Jvm.exec) (hZ : Z.Warmed39 (s.setVm vm0).vm) (hS : s.Since vm0 k0) (hk : k0 ≤ T.heap.size) {own : String} {index : Nat} {y : MethodName} {bytes : ByteArray} {maxL : Nat} {rm : Room} {a : Addr} {argsL rest : List Value} {Qc : Option Value → Heap → List Loc → Prop} {W : Nat} (hy1 : y.name = "<init>")
    (hown : (s.setVm vm0).vm.findClass own = some m.cls) (w1 : (Cond.methodLink own index y).before a0 Z = true) (w2 : (Cond.instanceMethod y).before a0 Z = true) (w3 : (Cond.code y bytes maxL none).before a0 Z = true) (w4 : (Cond.initialized y.cls).before a0 Z = true)
    (hy : y.cls ≠ "java/lang/invoke/MethodHandle" ∧ y.cls ≠ "java/lang/invoke/VarHandle") (eT : T.heap = h) (D : own_DoesW l Z y bytes maxL none [] rm (.ref a :: argsL).toArray h Qc)
    (hf : rm.frames + 1 ≤ R.frames) (hl : W + (maxL + 11) + rm.locals ≤ R.locals) (hc : cells + rm.cells ≤ R.cells) (hn : slots + rm.slots ≤ R.slots)
    {pc : Nat} {Ls : Array Slot} {S : List Value} (hsize : Ls.size = c.maxLocals) (hlen : ∀ sig, parseMethodDescriptor y.desc = some sig → argsL.length = sig.parameters.length) (hstack : S = argsL.reverse ++ .ref a :: rest) (hW : 2 * 0 + (rest.map fun v => v.category).sum ≤ W) (hd : decode c.code pc = .ok (.invokespecial index, 3))
    (k : ∀ v T' L', Stand p l e R (s.setVm T'.vm) m args below meth c T' (locs ++ L') (cells + rm.cells) (slots + rm.slots) → s.Since T'.vm T'.heap.size → Z.Warmed39 (s.setVm T'.vm).vm → (s.setVm T'.vm).vm.findClass own = some m.cls → Qc v T'.heap L' → own_Goes p e below P (T'.setTop (mkF m (pc + 3) Ls (v.toList ++ rest)))) :
    own_Goes p e below P (T.setTop (mkF m pc Ls S)) := by
  obtain ⟨v, _, ⟨T', L', k', n'⟩, -, X', hS2, hg2, ⟨Lc, hQ, l', y', z'⟩, st⟩ := X.specialBackS hx (y := y) hy1 hown (mvT hZ w1) (mvT hZ w2) (mvT hZ w3) hy (backOfS (W := W) D hZ w3 w4 hf hl) (g := mkF m pc Ls S) rfl hsize (Steps.refl _) (a := a) (argsL := argsL) (rest := rest) hlen hstack hW hd (fun _ _ => ⟨rfl, eT, hc, hn⟩)
  dsimp only [Pt.U, Pt.locs, Pt.cells, Pt.slots] at X' l' y' z' st hQ hS2 hg2
  subst l' y' z'
  obtain ⟨X2, hS3, hZ3, hown3⟩ := rebS hS hk X' hS2 hg2 hZ hown
  exact own_tr st (k v T' Lc X2 hS3 hZ3 hown3 hQ)
theorem own_notIns {O N1 C1 K : String} {n : Nat} (w1 : (Cond.superclass C1 N1).before a0 Z = true) (w2 : (Cond.superclass N1 O).before a0 Z = true) (w3 : (Cond.noSuperclass O).before a0 Z = true) (wi : (Cond.instantiable K n).before a0 Z = true) (h1 : O ≠ K) (h2 : N1 ≠ K) (h3 : C1 ≠ K) : ∃ c t, Z.vm.findClass C1 = some c ∧ Z.vm.findClass K = some t ∧ Z.vm.assignable c t = false := by
  obtain ⟨t, kt, g1, g2, g3, g4, -⟩ := Cond.instantiable_spec wi
  have root : NS Z O K := by
    obtain ⟨c, k, q1, q2, q3, -, -⟩ := Cond.noSuperclass_spec w3
    have ne := ids_ne q1 g1 h1
    refine ⟨c, t, q1, g1, fun fuel => ?_⟩
    cases fuel with
    | zero => rfl
    | succ f => simp [Vm.isSubclassAux, ne, q2, q3]
  obtain ⟨c, t', q0, q1, n3⟩ := NS.step w1 (NS.step w2 root h2) h3
  cases g1.symm.trans q1
  obtain ⟨p, k, kp, r1, r2, r3, r4, r5, -, r7⟩ := Cond.superclass_spec q0 w1
  have ne := ids_ne q0 g1 h3
  have g5 : kt.isInterface = false := by
    cases hq : kt.isInterface
    · rfl
    · rw [hq] at g4; cases g4
  refine ⟨c, t, q0, g1, ?_⟩
  show Z.vm.assignableAux (255 + 1) c t = false
  simp [Vm.assignableAux, ne, r2, g2, r5, g3, g5, Vm.isSubclass, n3]
/-! from the case's words -/
theorem own_eqR {args : Array Value} {s : State} {a b : Term} {y : Addr} (h1 : (Cond.eq a b).value args s none s [] = some true) (h2 : b.eval args s none [] s = some (.ref y)) : a.eval args s none [] s = some (.ref y) := by
  simp only [Cond.value, h2] at h1
  cases ha : a.eval args s none [] s with
  | none => simp [ha] at h1
  | some x => cases x <;> simp [ha] at h1 ⊢ <;> exact h1
theorem own_eqI {args : Array Value} {s : State} {a : Term} {n : Int32} (h1 : (Cond.eq a (.int n)).value args s none s [] = some true) : a.eval args s none [] s = some (.int n) := by
  have h2 : (Term.int n).eval args s none [] s = some (.int n) := rfl
  simp only [Cond.value, h2] at h1
  cases ha : a.eval args s none [] s with
  | none => simp [ha] at h1
  | some x => cases x <;> simp [ha] at h1 ⊢ <;> exact h1
theorem own_fld {args : Array Value} {s : State} {t : Term} {a : Addr} {C n d : String} {v : Value} (ht : t.eval args s none [] s = some (.ref a)) (h : (Term.field t C n d).eval args s none [] s = some v) : Fld s s.heap a C n d v := Fld.start (by rw [← fld_at ht]; exact h)
/-- two objects whose field differs are two -/
theorem own_ne {a b : Addr} {C n d : String} {v w : Value} (F : Fld Z h a C n d v) (G : Fld Z h b C n d w) (hn : v ≠ w) : a ≠ b := fun q => by
  subst q
  obtain ⟨c1, f1, k1, i1, g1, h1, h2, -, -, -, -, h7⟩ := F
  obtain ⟨c2, f2, k2, i2, g2, e1, e2, -, -, -, -, e7⟩ := G
  cases h1.symm.trans e1
  cases h2.symm.trans e2
  exact hn (Option.some.inj (h7.symm.trans e7))
/-! arrays: the array at a has n components, the i-th is f i -/
def own_ArrF (Z : State) (h : Heap) (a : Addr) (ty : FieldType) (n : Nat) (f : Nat → Value) : Prop := ∃ cell, Arr Z h a cell ty ∧ cell.slots.size = n ∧ n < 2 ^ 31 ∧ ∀ i, i < n → cell.slots[i]? = some (f i)
theorem own_len {args : Array Value} {s : State} {t : Term} {a : Addr} {cell : Cell} {n : Int32} (h : (Term.length t).eval args s none [] s = some (.int n)) (ht : t.eval args s none [] s = some (.ref a)) (hc : s.arrayAt? a = some cell) : cell.slots.size < 2 ^ 31 ∧ cell.slots.size.toInt32 = n := by
  simp only [Term.eval, ht, hc, Option.bind_eq_bind, Option.bind_some] at h
  split at h
  · rename_i q
    exact ⟨q, by simpa using h⟩
  · cases h
theorem own_clamp {j : Int32} {i : Nat} (h : j.toInt = i) : j.toNatClampNeg = i := by
  show j.toInt.toNat = i
  omega
theorem own_in {j : Int32} {i n : Nat} (h : j.toInt = i) (hi : i < n) : ¬ (j < 0 ∨ n ≤ j.toNatClampNeg) := by
  rw [own_clamp h, Int32.lt_iff_toInt_lt]
  have q : (0 : Int32).toInt = 0 := rfl
  omega
theorem own_arrF {args : Array Value} {s : State} {t : Term} {a : Addr} {ty : FieldType} {f : Nat → Value} {n : Nat} {n32 : Int32} (ht : t.eval args s none [] s = some (.ref a)) (h1 : (Cond.arrayOf t ty).value args s none s [] = some true) (h2 : (Cond.eq (.length t) (.int n32)).value args s none s [] = some true) (hn : n32.toInt = n)
    (hel : ∀ cell, s.arrayAt? a = some cell → s.heap[a]? = some cell → cell.slots.size = n → ∀ i, i < n → cell.slots[i]? = some (f i)) : own_ArrF s s.heap a ty n f := by
  obtain ⟨cell, Ac⟩ := Arr.start ht h1
  have hat := Ac.fin (Vm.Alike.refl _)
  obtain ⟨q1, q2⟩ := own_len (own_eqI h2) ht hat
  have q3 : cell.slots.size = n := by
    have q4 := congrArg Int32.toInt q2
    rw [len_toInt q1, hn] at q4
    omega
  exact ⟨cell, Ac, q3, by omega, hel cell hat Ac.1 q3⟩
theorem own_el {args : Array Value} {s : State} {t : Term} {a : Addr} {cell : Cell} {j : Int32} {v : Value} {i : Nat} (ht : t.eval args s none [] s = some (.ref a)) (hc : s.heap[a]? = some cell) (h : (Term.elem t (.int j)).eval args s none [] s = some v) (hj : j.toInt = i) : cell.slots[i]? = some v := by
  have q := (elem_in h ht rfl hc).2
  rw [own_clamp hj] at q
  exact q
theorem own_ArrF.ext {h' : Heap} {a : Addr} {ty : FieldType} {n : Nat} {f : Nat → Value} (E : Ext h h') (F : own_ArrF Z h a ty n f) : own_ArrF Z h' a ty n f := by
  obtain ⟨cell, h1, h2⟩ := F
  exact ⟨cell, h1.ext E, h2⟩
theorem own_ArrF.keep {h' : Heap} {a : Addr} {ty : FieldType} {n : Nat} {f : Nat → Value} {b : Addr} {sl : Nat} {v : Value} (W : Wr h h' b sl v) (F : own_ArrF Z h a ty n f) (hne : a ≠ b) : own_ArrF Z h' a ty n f := by
  obtain ⟨cell, h1, h2⟩ := F
  exact ⟨cell, h1.other W hne, h2⟩
theorem own_ArrF.set {h' : Heap} {a : Addr} {ty : FieldType} {n : Nat} {f : Nat → Value} {j : Nat} {v : Value} (F : own_ArrF Z h a ty n f) (hj : j < n) (W : Wr h h' a j v) : own_ArrF Z h' a ty n (fun i => if i = j then v else f i) := by
  obtain ⟨cell, h1, h2, h3, h4⟩ := F
  refine ⟨cell.setSlot j v, h1.same W, by simp [Cell.setSlot, h2], h3, fun i hi => ?_⟩
  show _ = some (if i = j then v else f i)
  by_cases q : i = j
  · subst q
    rw [if_pos rfl]
    simp [Cell.setSlot, h2, hi]
  · rw [if_neg q, ← h4 i hi]
    exact Array.getElem?_setIfInBounds_ne (Ne.symm q)
theorem own_ArrF.mono {a : Addr} {ty : FieldType} {n : Nat} {f g : Nat → Value} (F : own_ArrF Z h a ty n f) (hg : ∀ i, i < n → f i = g i) : own_ArrF Z h a ty n g := by
  obtain ⟨cell, h1, h2, h3, h4⟩ := F
  exact ⟨cell, h1, h2, h3, fun i hi => by rw [h4 i hi, hg i hi]⟩
theorem own_alen (X : Stand p l e R s m args below meth c T locs cells slots) (hx : p.tables.exec = Jvm.exec) (hZ : Z.Warmed39 s.vm) (eT : T.heap = h) {a : Addr} {ty : FieldType} {n : Nat} {f : Nat → Value} (F : own_ArrF Z h a ty n f)
    {pc : Nat} {Ls : Array Slot} {S : List Value} (hd : decode c.code pc = .ok (.arraylength, 1)) (k : own_Goes p e below P (T.setTop (mkF m (pc + 1) Ls (.int n.toInt32 :: S)))) : own_Goes p e below P (T.setTop (mkF m pc Ls (.ref a :: S))) := by
  obtain ⟨cell, h1, h2, h3, h4⟩ := F
  subst h2
  exact own_by (fun _ q => X.arraylength hx (by rw [eT]; exact h1.1) (State.isArrayOf_alike hZ.alike h1.2.1) (g := mkF m pc Ls (.ref a :: S)) rfl rfl hd _ q) k
theorem own_aaload (X : Stand p l e R s m args below meth c T locs cells slots) (hx : p.tables.exec = Jvm.exec) (hZ : Z.Warmed39 s.vm) (eT : T.heap = h) {a : Addr} {ty : FieldType} {n : Nat} {f : Nat → Value} (F : own_ArrF Z h a ty n f) (hty : ty.isReference = true) {j : Int32} (i : Nat) (hj : j.toInt = i) (hi : i < n) {v : Value} (hv : f i = v)
    {pc : Nat} {Ls : Array Slot} {S : List Value} (hd : decode c.code pc = .ok (.aaload, 1)) (k : own_Goes p e below P (T.setTop (mkF m (pc + 1) Ls (v :: S)))) : own_Goes p e below P (T.setTop (mkF m pc Ls (.int j :: .ref a :: S))) := by
  obtain ⟨cell, h1, h2, h3, h4⟩ := F
  exact own_by (fun _ q => X.aaload hx (j := j) (v := v) (by rw [eT]; exact h1.1) (State.isArrayOf_alike hZ.alike h1.2.1) hty h1.2.2 (by rw [h2]; exact own_in hj hi) (by rw [own_clamp hj, h4 i hi, hv]) (g := mkF m pc Ls (.int j :: .ref a :: S)) rfl rfl hd _ q) k
theorem own_iaload (X : Stand p l e R s m args below meth c T locs cells slots) (hx : p.tables.exec = Jvm.exec) (hZ : Z.Warmed39 s.vm) (eT : T.heap = h) {a : Addr} {n : Nat} {f : Nat → Value} (F : own_ArrF Z h a .int n f) {j : Int32} (i : Nat) (hj : j.toInt = i) (hi : i < n) {v : Value} (hv : f i = v)
    {pc : Nat} {Ls : Array Slot} {S : List Value} (hd : decode c.code pc = .ok (.iaload, 1)) (k : own_Goes p e below P (T.setTop (mkF m (pc + 1) Ls (v :: S)))) : own_Goes p e below P (T.setTop (mkF m pc Ls (.int j :: .ref a :: S))) := by
  obtain ⟨cell, h1, h2, h3, h4⟩ := F
  exact own_by (fun _ q => X.iaload hx (j := j) (v := v) (by rw [eT]; exact h1.1) (State.isArrayOf_alike hZ.alike h1.2.1) h1.2.2 (by rw [h2]; exact own_in hj hi) (by rw [own_clamp hj, h4 i hi, hv]) (g := mkF m pc Ls (.int j :: .ref a :: S)) rfl rfl hd _ q) k
theorem own_baload (X : Stand p l e R s m args below meth c T locs cells slots) (hx : p.tables.exec = Jvm.exec) (hZ : Z.Warmed39 s.vm) (eT : T.heap = h) {a : Addr} {n : Nat} {f : Nat → Value} (F : own_ArrF Z h a .byte n f) {j : Int32} (i : Nat) (hj : j.toInt = i) (hi : i < n) {v : Value} (hv : f i = v)
    {pc : Nat} {Ls : Array Slot} {S : List Value} (hd : decode c.code pc = .ok (.baload, 1)) (k : own_Goes p e below P (T.setTop (mkF m (pc + 1) Ls (v :: S)))) : own_Goes p e below P (T.setTop (mkF m pc Ls (.int j :: .ref a :: S))) := by
  obtain ⟨cell, h1, h2, h3, h4⟩ := F
  exact own_by (fun _ q => X.baloadBytes hx (j := j) (v := v) (by rw [eT]; exact h1.1) (State.isArrayOf_alike hZ.alike h1.2.1) h1.2.2 (by rw [h2]; exact own_in hj hi) (by rw [own_clamp hj, h4 i hi, hv]) (g := mkF m pc Ls (.int j :: .ref a :: S)) rfl rfl hd _ q) k
theorem own_callVU0 (X : Stand p l e R s m args below meth c T locs cells slots) (hx : p.tables.exec = Jvm.exec) (hZ : Z.Warmed39 s.vm) {own K owner : String} {index : Nat} {y z : MethodName} {bytes : ByteArray} {maxL : Nat} {ret : Option FieldType} {fr lo : Nat} {b : Addr} {argsL rest : List Value} {w : Value} {W : Nat}
    (hown : s.vm.findClass own = some m.cls) (w1 : (Cond.methodLink own index y).before a0 Z = true) (w2 : (Cond.sameMethod y.cls owner y.name y.desc).before a0 Z = true) (w2' : (Cond.declares ⟨owner, y.name, y.desc⟩).before a0 Z = true) (w3 : (Cond.selects K y z).before a0 Z = true) (w4 : (Cond.instanceMethod z).before a0 Z = true) (w5 : (Cond.code z bytes maxL ret).before a0 Z = true) (w6 : (Cond.initialized z.cls).before a0 Z = true)
    (hy : owner ≠ "java/lang/invoke/MethodHandle" ∧ owner ≠ "java/lang/invoke/VarHandle") (eT : T.heap = h) (E : Exa Z h b K) (D : own_Does l Z z bytes maxL ret [] { frames := fr, cells := 0, slots := 0, locals := lo } (.ref b :: argsL).toArray h (own_Is w h))
    (hf : fr + 1 ≤ R.frames) (hl : W + (maxL + 11) + lo ≤ R.locals) (hc : cells ≤ R.cells) (hn : slots ≤ R.slots)
    {pc : Nat} {Ls : Array Slot} {S : List Value} (hsize : Ls.size = c.maxLocals) (hlen : ∀ sig, parseMethodDescriptor y.desc = some sig → argsL.length = sig.parameters.length) (hstack : S = argsL.reverse ++ .ref b :: rest) (hW : 2 * 0 + (rest.map fun v => v.category).sum ≤ W) (hd : decode c.code pc = .ok (.invokevirtual index, 3))
    (k : ∀ T', Stand p l e R s m args below meth c T' locs cells slots → T'.heap = h → own_Goes p e below P (T'.setTop (mkF m (pc + 3) Ls (w :: rest)))) :
    own_Goes p e below P (T.setTop (mkF m pc Ls S)) := by
  obtain ⟨cq, kq, qa, -, qc⟩ := isOf (T := T) hZ eT E
  obtain ⟨v, _, ⟨T', L', k', n'⟩, -, X', ⟨Lc, hQ, l', y', z'⟩, st⟩ := X.virtualBackUp hx (x := y) (y := z) hown (mvT hZ w1) (mvT hZ w2) (mvT hZ w2') hy (mvT hZ w3) (mvT hZ w4) (backOf (W := W) D hZ w5 w6 hf hl) qa qc (g := mkF m pc Ls S) rfl hsize (Steps.refl _) (argsL := argsL) (rest := rest) hlen hstack hW hd (fun _ _ => ⟨rfl, eT, hc, hn⟩)
  dsimp only [Pt.U, Pt.locs, Pt.cells, Pt.slots] at X' l' y' z' st hQ
  subst l' y' z'
  obtain ⟨rfl, rfl, e'⟩ := hQ
  rw [List.append_nil] at X'
  exact own_tr st (k T' X' e')
theorem own_getClass (X : Stand p l e R s m args below meth c T locs cells slots) (hx : p.tables.exec = Jvm.exec) (hZ : Z.Warmed39 s.vm) {own K : String} {index : Nat} {b mir : Addr} {cM : ClassId} {kM : Class} (hown : s.vm.findClass own = some m.cls) (w1 : (Cond.methodLink own index Jvm.Stand.gcN).before a0 Z = true) (w2 : (Cond.declares Jvm.Stand.gcN).before a0 Z = true) (w3 : (Cond.selects K Jvm.Stand.gcN Jvm.Stand.gcN).before a0 Z = true) (w4 : (Cond.instanceMethod Jvm.Stand.gcN).before a0 Z = true) (w5 : (Cond.native Jvm.Stand.gcN).before a0 Z = true)
    (eT : T.heap = h) (E : Exa Z h b K) (m1 : Z.vm.findClass K = some cM) (m2 : Z.vm.classes[cM]? = some kM) (m3 : kM.mirror = some mir)
    {pc : Nat} {Ls : Array Slot} {rest : List Value} (hsize : Ls.size = c.maxLocals) (hd : decode c.code pc = .ok (.invokevirtual index, 3)) (hf : 1 ≤ R.frames) (hl : 2 * 0 + (rest.map fun v => v.category).sum + (nativeFrameWords "java/lang/Object" "getClass" 1 + 11) ≤ R.locals)
    (k : ∀ T', Stand p l e R s m args below meth c T' locs cells slots → T'.heap = h → own_Goes p e below P (T'.setTop (mkF m (pc + 3) Ls (.ref mir :: rest)))) :
    own_Goes p e below P (T.setTop (mkF m pc Ls (.ref b :: rest))) := by
  obtain ⟨cq, kq, qa, qb, qc⟩ := isOf (T := T) hZ eT E
  have e1 : cq = cM := by
    rw [hZ.alike.findClass] at qa
    exact Option.some.inj (qa.symm.trans m1)
  subst e1
  obtain ⟨k', r1, r2⟩ := hZ.alike.2.2 _ _ m2
  cases qb.symm.trans r1
  obtain ⟨vm1, X', st⟩ := X.getClassOf hx hown (mvT hZ w1) (mvT hZ w2) (notFace_of_selects (args := #[]) (mvT hZ w3)) (mvT hZ w3) (mvT hZ w4) (mvT hZ w5) qa qc qb (by rw [r2]; exact m3) (g := mkF m pc Ls (.ref b :: rest)) rfl hsize rfl hd hf hl
  exact own_by st (k _ X' eT)
theorem own_callF0 (X : Stand p l e R s m args below meth c T locs cells slots) (hx : p.tables.exec = Jvm.exec) (hZ : Z.Warmed39 s.vm) {own K : String} {index count : Nat} {y z : MethodName} {bytes : ByteArray} {maxL : Nat} {ret : Option FieldType} {fr lo : Nat} {b : Addr} {argsL rest : List Value} {w : Value} {W : Nat}
    (hown : s.vm.findClass own = some m.cls) (w1 : (Cond.methodLink own index y).before a0 Z = true) (w2 : (Cond.declares y).before a0 Z = true) (w2' : (Cond.interfaceMethod y.cls y.cls y.name y.desc).before args s = true) (w3 : (Cond.selects K y z).before a0 Z = true) (w4 : (Cond.instanceMethod z).before a0 Z = true) (wp : (Cond.publicMethod z).before a0 Z = true) (wu : (Cond.unhidden K y.name y.desc).before a0 Z = true) (wc : (Cond.castable K y.cls).before a0 Z = true) (w5 : (Cond.code z bytes maxL ret).before a0 Z = true) (w6 : (Cond.initialized z.cls).before a0 Z = true)
    (hy : y.cls ≠ "java/lang/invoke/MethodHandle" ∧ y.cls ≠ "java/lang/invoke/VarHandle") (eT : T.heap = h) (E : Exa Z h b K) (D : own_Does l Z z bytes maxL ret [] { frames := fr, cells := 0, slots := 0, locals := lo } (.ref b :: argsL).toArray h (own_Is w h))
    (hf : fr + 1 ≤ R.frames) (hl : W + (maxL + 11) + lo ≤ R.locals) (hc : cells ≤ R.cells) (hn : slots ≤ R.slots)
    {pc : Nat} {Ls : Array Slot} {S : List Value} (hsize : Ls.size = c.maxLocals) (hlen : ∀ sig, parseMethodDescriptor y.desc = some sig → argsL.length = sig.parameters.length) (hstack : S = argsL.reverse ++ .ref b :: rest) (hW : 2 * 0 + (rest.map fun v => v.category).sum ≤ W) (hd : decode c.code pc = .ok (.invokeinterface index count, 5))
    (k : ∀ T', Stand p l e R s m args below meth c T' locs cells slots → T'.heap = h → own_Goes p e below P (T'.setTop (mkF m (pc + 5) Ls (w :: rest)))) :
    own_Goes p e below P (T.setTop (mkF m pc Ls S)) := by
  obtain ⟨cq, kq, qa, qb, qc⟩ := isOf (T := T) hZ eT E
  obtain ⟨v, _, ⟨T', L', k', n'⟩, -, X', ⟨Lc, hQ, l', y', z'⟩, st⟩ := X.interfaceBack hx (xi := y) (y := z) hown (mvT hZ w1) (mvT hZ w2) w2' (mvT hZ w3) (mvT hZ w4) (mvT hZ wp) (mvT hZ wu) (mvT hZ wc) hy (backOf (W := W) D hZ w5 w6 hf hl) qa qb qc (g := mkF m pc Ls S) rfl hsize (Steps.refl _) (argsL := argsL) (rest := rest) hlen hstack hW hd (fun _ _ => ⟨rfl, eT, hc, hn⟩)
  dsimp only [Pt.U, Pt.locs, Pt.cells, Pt.slots] at X' l' y' z' st hQ
  subst l' y' z'
  obtain ⟨rfl, rfl, e'⟩ := hQ
  rw [List.append_nil] at X'
  exact own_tr st (k T' X' e')
theorem own_cast (X : Stand p l e R s m args below meth c T locs cells slots) (hx : p.tables.exec = Jvm.exec) (hZ : Z.Warmed39 s.vm) {own K : String} {index : Nat} (hown : s.vm.findClass own = some m.cls) (w : (Cond.classLink own index K).before a0 Z = true) (eT : T.heap = h) {a : Addr} (F : Ins Z h a K true)
    {pc : Nat} {Ls : Array Slot} {S : List Value} (hd : decode c.code pc = .ok (.checkcast index, 3))
    (k : ∀ T', Stand p l e R s m args below meth c T' locs cells slots → T'.heap = h → own_Goes p e below P (T'.setTop (mkF m (pc + 3) Ls (.ref a :: S)))) :
    own_Goes p e below P (T.setTop (mkF m pc Ls (.ref a :: S))) := by
  obtain ⟨T', X', e', st⟩ := castY X hx hZ hown w eT F (g := mkF m pc Ls (.ref a :: S)) rfl rfl hd
  exact own_by st (k T' X' e')
def own_ArrC (Z : State) (h : Heap) (a : Addr) (ty : FieldType) (n : Nat) (f : Nat → Value) : Prop := ∃ cell, Arr Z h a cell ty ∧ FitC Z cell ∧ cell.slots.size = n ∧ n < 2 ^ 31 ∧ ∀ i, i < n → cell.slots[i]? = some (f i)
theorem own_ArrC.ext {h' : Heap} {a : Addr} {ty : FieldType} {n : Nat} {f : Nat → Value} (E : Ext h h') (F : own_ArrC Z h a ty n f) : own_ArrC Z h' a ty n f := by
  obtain ⟨cell, h1, h2⟩ := F
  exact ⟨cell, h1.ext E, h2⟩
theorem own_ArrF.fit {s : State} {a : Addr} {ty : FieldType} {n : Nat} {f : Nat → Value} (hf : Fit s) (F : own_ArrF s s.heap a ty n f) : own_ArrC s s.heap a ty n f := by
  obtain ⟨cell, h1, h2⟩ := F
  exact ⟨cell, h1, FitC.start hf h1, h2⟩
theorem own_clone (X : Stand p l e R s m args below meth c T locs cells slots) (hx : p.tables.exec = Jvm.exec) (hZ : Z.Warmed39 s.vm) {own ad : String} {index : Nat} {W : Nat} (hown : s.vm.findClass own = some m.cls)
    (w1 : (Cond.methodLink own index ⟨ad, "clone", "()Ljava/lang/Object;"⟩).before a0 Z = true) (w2 : (Cond.sameMethod ad "java/lang/Object" "clone" "()Ljava/lang/Object;").before a0 Z = true) (w3 : (Cond.native ⟨"java/lang/Object", "clone", "()Ljava/lang/Object;"⟩).before a0 Z = true)
    (w4 : (Cond.instanceMethod ⟨"java/lang/Object", "clone", "()Ljava/lang/Object;"⟩).before a0 Z = true) (w5 : (Cond.selects ad ⟨ad, "clone", "()Ljava/lang/Object;"⟩ ⟨"java/lang/Object", "clone", "()Ljava/lang/Object;"⟩).before a0 Z = true) (w6 : (Cond.castable ad "java/lang/Cloneable").before a0 Z = true)
    (eT : T.heap = h) {a : Addr} {ty : FieldType} {n : Nat} {f : Nat → Value} (A : own_ArrC Z h a ty n f) (E : Exa Z h a ad) {pc : Nat} {Ls : Array Slot} {rest : List Value} (hsize : Ls.size = c.maxLocals) (hd : decode c.code pc = .ok (.invokevirtual index, 3))
    (hf : 1 ≤ R.frames) (hW : 2 * 0 + (rest.map fun v => v.category).sum ≤ W) (hl : W + 14 ≤ R.locals) (hc : cells + 1 ≤ R.cells) (hsl : slots + n ≤ R.slots)
    (k : ∀ T' h', Stand p l e R s m args below meth c T' locs (cells + 1) (slots + n) → T'.heap = h' → Ext h h' → own_ArrF Z h' h.size ty n f → Exa Z h' h.size ad → own_Goes p e below P (T'.setTop (mkF m (pc + 3) Ls (.ref h.size :: rest)))) :
    own_Goes p e below P (T.setTop (mkF m pc Ls (.ref a :: rest))) := by
  obtain ⟨cell, h1, h2, h3, h4, h5⟩ := A
  obtain ⟨T', h', X', e', E', A', Ex', st⟩ := cloneA X hx hZ hown w1 w2 w3 w4 w5 w6 eT h1 E h2 (g := mkF m pc Ls (.ref a :: rest)) rfl hsize rfl hd hf (W := W) (cap := n) hW hl (by omega) hc hsl
  exact own_by st (k T' h' X' e' E' ⟨_, A', h3, h4, h5⟩ Ex')
/-! what is made and written -/
theorem own_Ext.refl (h : Heap) : Ext h h := ⟨Nat.le_refl _, fun _ _ q => q⟩
theorem own_Ext.trans {h h' h'' : Heap} (E : Ext h h') (E' : Ext h' h'') : Ext h h'' := ⟨Nat.le_trans E.1 E'.1, fun a c q => E'.2 a c (E.2 a c q)⟩
theorem own_Ext.keep {h h' h'' : Heap} {ws : List Addr} (E : Ext h h') (K : Keep h' h'' ws) (q : ∀ x ∈ ws, h.size ≤ x) : Ext h h'' :=
  ⟨Nat.le_trans E.1 K.1, fun a c r => K.2.1 a c (E.2 a c r) fun z => absurd (Array.getElem?_eq_some_iff.mp r).1 (Nat.not_lt.mpr (q a z))⟩
theorem own_Ext.wr {h h' h'' : Heap} {a : Addr} {sl : Nat} {v : Value} (E : Ext h h') (W : Wr h' h'' a sl v) (q : h.size ≤ a) : Ext h h'' := own_Ext.keep E (Keep.of_wr W) fun x hx => by cases List.mem_singleton.mp hx; exact q
theorem own_newO (X : Stand p l e R s m args below meth c T locs cells slots) (hx : p.tables.exec = Jvm.exec) (hZ : Z.Warmed39 s.vm) {own K : String} {index n : Nat} (hown : s.vm.findClass own = some m.cls) (w : (Cond.classLink own index K).before a0 Z = true) (wi : (Cond.instantiable K n).before a0 Z = true) (wz : (Cond.initialized K).before a0 Z = true) (eT : T.heap = h)
    {pc : Nat} {Ls : Array Slot} {S : List Value} (hd : decode c.code pc = .ok (.new index, 3)) (hc : cells + 1 ≤ R.cells) (hl : slots + n ≤ R.slots)
    (k : ∀ T' h', Stand p l e R s m args below meth c T' locs (cells + 1) (slots + n) → T'.heap = h' → Ext h h' → Exa Z h' h.size K → (∀ (O nm d : String) (ty : FieldType), Laid Z a0 K O nm d → parseFieldDescriptor d = some ty → Fld Z h' h.size O nm d (defaultValue ty)) → own_Goes p e below P (T'.setTop (mkF m (pc + 3) Ls (.ref h.size :: S)))) :
    own_Goes p e below P (T.setTop (mkF m pc Ls S)) := by
  obtain ⟨T', h', X', e', E', A', D', -, st⟩ := newO X hx hZ hown w wi wz eT (g := mkF m pc Ls S) rfl hd hc hl
  exact own_by st (k T' h' X' e' E' A' (fun O nm d ty q r => D' q r))
theorem own_callI (X : Stand p l e R s m args below meth c T locs cells slots) (hx : p.tables.exec = Jvm.exec) (hZ : Z.Warmed39 s.vm) {own : String} {index : Nat} {y : MethodName} {bytes : ByteArray} {maxL : Nat} {rm : Room} {a : Addr} {argsL rest : List Value} {Qc : Option Value → Heap → List Loc → Prop} {W : Nat} (hy1 : y.name = "<init>")
    (hown : s.vm.findClass own = some m.cls) (w1 : (Cond.methodLink own index y).before a0 Z = true) (w2 : (Cond.instanceMethod y).before a0 Z = true) (w3 : (Cond.code y bytes maxL none).before a0 Z = true) (w4 : (Cond.initialized y.cls).before a0 Z = true)
    (hy : y.cls ≠ "java/lang/invoke/MethodHandle" ∧ y.cls ≠ "java/lang/invoke/VarHandle") (eT : T.heap = h) (D : own_Does l Z y bytes maxL none [] rm (.ref a :: argsL).toArray h Qc)
    (hf : rm.frames + 1 ≤ R.frames) (hl : W + (maxL + 11) + rm.locals ≤ R.locals) (hc : cells + rm.cells ≤ R.cells) (hn : slots + rm.slots ≤ R.slots)
    {pc : Nat} {Ls : Array Slot} {S : List Value} (hsize : Ls.size = c.maxLocals) (hlen : ∀ sig, parseMethodDescriptor y.desc = some sig → argsL.length = sig.parameters.length) (hstack : S = argsL.reverse ++ .ref a :: rest) (hW : 2 * 0 + (rest.map fun v => v.category).sum ≤ W) (hd : decode c.code pc = .ok (.invokespecial index, 3))
    (k : ∀ v T' L', Stand p l e R s m args below meth c T' (locs ++ L') (cells + rm.cells) (slots + rm.slots) → Qc v T'.heap L' → own_Goes p e below P (T'.setTop (mkF m (pc + 3) Ls (v.toList ++ rest)))) :
    own_Goes p e below P (T.setTop (mkF m pc Ls S)) := by
  obtain ⟨v, _, ⟨T', L', k', n'⟩, -, X', ⟨Lc, hQ, l', y', z'⟩, st⟩ := X.specialBack hx (y := y) hy1 hown (mvT hZ w1) (mvT hZ w2) (mvT hZ w3) hy (backOf (W := W) D hZ w3 w4 hf hl) (g := mkF m pc Ls S) rfl hsize (Steps.refl _) (a := a) (argsL := argsL) (rest := rest) hlen hstack hW hd (fun _ _ => ⟨rfl, eT, hc, hn⟩)
  dsimp only [Pt.U, Pt.locs, Pt.cells, Pt.slots] at X' l' y' z' st hQ
  subst l' y' z'
  exact own_tr st (k v T' Lc X' hQ)
theorem own_initO (X : Stand p l e R s m args below meth c T locs cells slots) (hx : p.tables.exec = Jvm.exec) (hZ : Z.Warmed39 s.vm) {own : String} {idx : Nat} {a : Addr} {rest : List Value} {W : Nat} (hown : s.vm.findClass own = some m.cls) (w1 : (Cond.methodLink own idx Lib.objectInit).before a0 Z = true) (w2 : (Cond.instanceMethod Lib.objectInit).before a0 Z = true)
    (w3 : (Cond.code Lib.objectInit ⟨#[0xb1]⟩ 1 none).before a0 Z = true) (eT : T.heap = h) {pc : Nat} {Ls : Array Slot} (hsize : Ls.size = c.maxLocals) (hd : decode c.code pc = .ok (.invokespecial idx, 3)) (hf : 1 ≤ R.frames) (hW : 2 * 0 + (rest.map fun v => v.category).sum ≤ W) (hl : W + 12 ≤ R.locals)
    (k : ∀ T', Stand p l e R s m args below meth c T' locs cells slots → T'.heap = h → own_Goes p e below P (T'.setTop (mkF m (pc + 3) Ls rest))) :
    own_Goes p e below P (T.setTop (mkF m pc Ls (.ref a :: rest))) := by
  obtain ⟨T', X', e', st⟩ := initO X hx hZ hown w1 w2 w3 eT (g := mkF m pc Ls (.ref a :: rest)) rfl hsize rfl hd hf (W := W) hW hl
  exact own_by st (k T' X' e')
theorem own_putF (X : Stand p l e R s m args below meth c T locs cells slots) (hx : p.tables.exec = Jvm.exec) (hZ : Z.Warmed39 s.vm) {own O n d K : String} {index kk : Nat} {ty : FieldType} (hown : s.vm.findClass own = some m.cls) (w : (Cond.fieldLink own index O n d).before a0 Z = true)
    (eT : T.heap = h) {a : Addr} {v old : Value} (F : Fld Z h a O n d old) (E : Exa Z h a K) (L : (Cond.lays K O n d).before a0 Z = true ∨ ((Cond.laysFinal K O n d).before a0 Z = true ∧ own = O ∧ meth.name = "<init>")) (wi : (Cond.instantiable K kk).before a0 Z = true)
    (hty : parseFieldDescriptor d = some ty) (hn : narrow ty v = v) (hf : fits ty v = true) {pc : Nat} {Ls : Array Slot} {rest : List Value} (hd : decode c.code pc = .ok (.putfield index, 3))
    (k : ∀ T' h', Stand p l e R s m args below meth c T' (locs ++ [⟨a, Jvm.RoadKit.slotOf Z O n d⟩]) cells slots → T'.heap = h' → Wr h h' a (Jvm.RoadKit.slotOf Z O n d) v → own_Goes p e below P (T'.setTop (mkF m (pc + 3) Ls rest))) :
    own_Goes p e below P (T.setTop (mkF m pc Ls (v :: .ref a :: rest))) := by
  obtain ⟨T', h', X', e', W', st⟩ := putF X hx hZ hown (host := "") (Or.inl w) Via.refl eT F E L wi hty hn hf (g := mkF m pc Ls (v :: .ref a :: rest)) rfl rfl hd
  exact own_by st (k T' h' X' e' W')
theorem own_arr_new {a : Addr} {cA : ClassId} {ty : FieldType} {n : Int32} {i : Nat} (A : Arr Z h a (newA cA ty n) ty) (hn : n.toInt = i) : own_ArrF Z h a ty i (fun _ => defaultValue ty) := by
  have q : n.toNatClampNeg = i := own_clamp hn
  refine ⟨_, A, by rw [sz_new, q], ?_, fun j hj => ?_⟩
  · have := Int32.toInt_lt n; omega
  · simp [newA, q, hj]
theorem own_newR (X : Stand p l e R s m args below meth c T locs cells slots) (hx : p.tables.exec = Jvm.exec) (hZ : Z.Warmed39 s.vm) {own K : String} {index : Nat} (hown : s.vm.findClass own = some m.cls) (w1 : (Cond.classLink own index K).before a0 Z = true) (w2 : (Cond.arrayOver (.object K)).before a0 Z = true) (eT : T.heap = h)
    {pc : Nat} {Ls : Array Slot} {S : List Value} (hd : decode c.code pc = .ok (.anewarray index, 3)) {n : Int32} (i : Nat) (hi : n.toInt = i) (hb : i * 8 ≤ 536870912) (hc : cells + 1 ≤ R.cells) (hl : slots + i ≤ R.slots)
    (k : ∀ T' h' cA, Stand p l e R s m args below meth c T' locs (cells + 1) (slots + i) → T'.heap = h' → Ext h h' → Arr Z h' h.size (newA cA (.object K) n) (.object K) → Ovr Z cA K → own_Goes p e below P (T'.setTop (mkF m (pc + 3) Ls (.ref h.size :: S)))) :
    own_Goes p e below P (T.setTop (mkF m pc Ls (.int n :: S))) := by
  have q : n.toNatClampNeg = i := own_clamp hi
  have q2 : ¬ n < 0 := by rw [Int32.lt_iff_toInt_lt, hi]; have : (0 : Int32).toInt = 0 := rfl; omega
  obtain ⟨T', h', cA, X', e', E', A', O', st⟩ := newR X hx hZ hown w1 w2 eT (g := mkF m pc Ls (.int n :: S)) rfl hd rfl q2 (cap := i) (by omega) hb hc hl
  exact own_by st (k T' h' cA X' e' E' A' O')
theorem own_newP (X : Stand p l e R s m args below meth c T locs cells slots) (hx : p.tables.exec = Jvm.exec) (hZ : Z.Warmed39 s.vm) {aty : ArrayType} (w : (Cond.arrayClass (newarray.typeOf aty)).before a0 Z = true) (eT : T.heap = h)
    {pc : Nat} {Ls : Array Slot} {S : List Value} (hd : decode c.code pc = .ok (.newarray aty, 2)) {n : Int32} (i : Nat) (hi : n.toInt = i) (hb : i * 8 ≤ 536870912) (hc : cells + 1 ≤ R.cells) (hl : slots + i ≤ R.slots)
    (k : ∀ T' h', Stand p l e R s m args below meth c T' locs (cells + 1) (slots + i) → T'.heap = h' → Ext h h' → own_ArrF Z h' h.size (newarray.typeOf aty) i (fun _ => defaultValue (newarray.typeOf aty)) → own_Goes p e below P (T'.setTop (mkF m (pc + 2) Ls (.ref h.size :: S)))) :
    own_Goes p e below P (T.setTop (mkF m pc Ls (.int n :: S))) := by
  have q : n.toNatClampNeg = i := own_clamp hi
  have q2 : ¬ n < 0 := by rw [Int32.lt_iff_toInt_lt, hi]; have : (0 : Int32).toInt = 0 := rfl; omega
  obtain ⟨T', h', cA, X', e', E', A', st⟩ := newP X hx hZ w eT (g := mkF m pc Ls (.int n :: S)) rfl hd rfl q2 (cap := i) (by omega) hb hc hl
  exact own_by st (k T' h' X' e' E' (own_arr_new A' hi))
theorem own_stI (X : Stand p l e R s m args below meth c T locs cells slots) (hx : p.tables.exec = Jvm.exec) (hZ : Z.Warmed39 s.vm) (eT : T.heap = h) {a : Addr} {n : Nat} {f : Nat → Value} (F : own_ArrF Z h a .int n f) {j x : Int32} (i : Nat) (hj : j.toInt = i) (hi : i < n)
    {pc : Nat} {Ls : Array Slot} {S : List Value} (hd : decode c.code pc = .ok (.iastore, 1))
    (k : ∀ T' h', Stand p l e R s m args below meth c T' (locs ++ [⟨a, i⟩]) cells slots → T'.heap = h' → Wr h h' a i (.int x) → own_ArrF Z h' a .int n (fun q => if q = i then .int x else f q) → own_Goes p e below P (T'.setTop (mkF m (pc + 1) Ls S))) :
    own_Goes p e below P (T.setTop (mkF m pc Ls (.int x :: .int j :: .ref a :: S))) := by
  have F' := F
  obtain ⟨cell, h1, h2, h3, h4⟩ := F'
  have q := own_clamp hj
  obtain ⟨T', h', X', e', W', st⟩ := stI X hx hZ eT h1 (j := j) (x := x) (by rw [h2]; exact own_in hj hi) (g := mkF m pc Ls (.int x :: .int j :: .ref a :: S)) rfl rfl hd
  rw [q] at X' W'
  exact own_by st (k T' h' X' e' W' (F.set hi W'))
theorem own_stR (X : Stand p l e R s m args below meth c T locs cells slots) (hx : p.tables.exec = Jvm.exec) (hZ : Z.Warmed39 s.vm) (eT : T.heap = h) {a : Addr} {ty : FieldType} {n : Nat} {f : Nat → Value} (F : own_ArrF Z h a ty n f) (hty : ty.isReference = true) {v : Value} (hs : Sto Z h a v) {j : Int32} (i : Nat) (hj : j.toInt = i) (hi : i < n)
    {pc : Nat} {Ls : Array Slot} {S : List Value} (hd : decode c.code pc = .ok (.aastore, 1))
    (k : ∀ T' h', Stand p l e R s m args below meth c T' (locs ++ [⟨a, i⟩]) cells slots → T'.heap = h' → Wr h h' a i v → own_ArrF Z h' a ty n (fun q => if q = i then v else f q) → own_Goes p e below P (T'.setTop (mkF m (pc + 1) Ls S))) :
    own_Goes p e below P (T.setTop (mkF m pc Ls (v :: .int j :: .ref a :: S))) := by
  have F' := F
  obtain ⟨cell, h1, h2, h3, h4⟩ := F'
  have q := own_clamp hj
  obtain ⟨T', h', X', e', W', st⟩ := stR X hx hZ eT h1 (j := j) (v := v) (by rw [h2]; exact own_in hj hi) hty hs (g := mkF m pc Ls (v :: .int j :: .ref a :: S)) rfl rfl hd
  rw [q] at X' W'
  exact own_by st (k T' h' X' e' W' (F.set hi W'))
theorem own_Fr.snoc {k : Nat} {L : List Loc} {a : Addr} {i : Nat} (N : Fr k L) (q : k ≤ a) : Fr k (L ++ [⟨a, i⟩]) := N.app fun y hy => by cases List.mem_singleton.mp hy; exact q
/-- the first k components are filled -/
def own_pre (g : Nat → Value) (d : Value) (k : Nat) : Nat → Value := fun q => if q < k then g q else d
theorem own_pre_step (g : Nat → Value) (d : Value) (k : Nat) (q : Nat) : (if q = k then g k else own_pre g d k q) = own_pre g d (k + 1) q := by
  unfold own_pre
  by_cases h1 : q = k
  · subst h1; rw [if_pos rfl, if_pos (Nat.lt_succ_self _)]
  · rw [if_neg h1]
    by_cases h2 : q < k
    · rw [if_pos h2, if_pos (by omega)]
    · rw [if_neg h2, if_neg (by omega)]
theorem own_pre_all {g : Nat → Value} {d : Value} {n i : Nat} (hi : i < n) : own_pre g d n i = g i := if_pos hi
def own_ArrR (Z : State) (h : Heap) (a : Addr) (K : String) (n : Nat) (f : Nat → Value) : Prop := ∃ cell, Arr Z h a cell (.object K) ∧ Ovr Z cell.cls K ∧ cell.slots.size = n ∧ n < 2 ^ 31 ∧ ∀ i, i < n → cell.slots[i]? = some (f i)
theorem own_ArrR.toF {a : Addr} {K : String} {n : Nat} {f : Nat → Value} (F : own_ArrR Z h a K n f) : own_ArrF Z h a (.object K) n f := by
  obtain ⟨cell, h1, -, h2⟩ := F
  exact ⟨cell, h1, h2⟩
theorem own_ArrR.ext {h' : Heap} {a : Addr} {K : String} {n : Nat} {f : Nat → Value} (E : Ext h h') (F : own_ArrR Z h a K n f) : own_ArrR Z h' a K n f := by
  obtain ⟨cell, h1, h2⟩ := F
  exact ⟨cell, h1.ext E, h2⟩
theorem own_ArrR.keep {h' : Heap} {a : Addr} {K : String} {n : Nat} {f : Nat → Value} {b : Addr} {sl : Nat} {v : Value} (W : Wr h h' b sl v) (F : own_ArrR Z h a K n f) (hne : a ≠ b) : own_ArrR Z h' a K n f := by
  obtain ⟨cell, h1, h2⟩ := F
  exact ⟨cell, h1.other W hne, h2⟩
theorem own_ArrF.lt {a : Addr} {ty : FieldType} {n : Nat} {f : Nat → Value} (F : own_ArrF Z h a ty n f) : a < h.size := by
  obtain ⟨cell, h1, -⟩ := F
  exact h1.lt
theorem own_ArrR.lt {a : Addr} {K : String} {n : Nat} {f : Nat → Value} (F : own_ArrR Z h a K n f) : a < h.size := F.toF.lt
theorem own_newRp (g : Nat → Value) (X : Stand p l e R s m args below meth c T locs cells slots) (hx : p.tables.exec = Jvm.exec) (hZ : Z.Warmed39 s.vm) {own K : String} {index : Nat} (hown : s.vm.findClass own = some m.cls) (w1 : (Cond.classLink own index K).before a0 Z = true) (w2 : (Cond.arrayOver (.object K)).before a0 Z = true) (eT : T.heap = h)
    {pc : Nat} {Ls : Array Slot} {S : List Value} (hd : decode c.code pc = .ok (.anewarray index, 3)) {n : Int32} (i : Nat) (hi : n.toInt = i) (hb : i * 8 ≤ 536870912) (hc : cells + 1 ≤ R.cells) (hl : slots + i ≤ R.slots)
    (k : ∀ T' h', Stand p l e R s m args below meth c T' locs (cells + 1) (slots + i) → T'.heap = h' → Ext h h' → own_ArrR Z h' h.size K i (own_pre g .null 0) → own_Goes p e below P (T'.setTop (mkF m (pc + 3) Ls (.ref h.size :: S)))) :
    own_Goes p e below P (T.setTop (mkF m pc Ls (.int n :: S))) := by
  refine own_newR X hx hZ hown w1 w2 eT hd i hi hb hc hl fun T' h' cA X' e' E' A' O' => k T' h' X' e' E' ?_
  have q : n.toNatClampNeg = i := own_clamp hi
  refine ⟨_, A', O', by rw [sz_new, q], ?_, fun j hj => ?_⟩
  · have := Int32.toInt_lt n; omega
  · simp [newA, q, hj, own_pre, defaultValue]
theorem own_stRp (g : Nat → Value) (X : Stand p l e R s m args below meth c T locs cells slots) (hx : p.tables.exec = Jvm.exec) (hZ : Z.Warmed39 s.vm) (eT : T.heap = h) {a : Addr} {K : String} {n : Nat} {i : Nat} (F : own_ArrR Z h a K n (own_pre g .null i)) {v : Value} (hs : v = .null ∨ ∃ y, v = .ref y ∧ Exa Z h y K) (hv : v = g i) {j : Int32} (hj : j.toInt = i) (hi : i < n)
    {pc : Nat} {Ls : Array Slot} {S : List Value} (hd : decode c.code pc = .ok (.aastore, 1))
    (k : ∀ T' h', Stand p l e R s m args below meth c T' (locs ++ [⟨a, i⟩]) cells slots → T'.heap = h' → Wr h h' a i v → own_ArrR Z h' a K n (own_pre g .null (i + 1)) → own_Goes p e below P (T'.setTop (mkF m (pc + 1) Ls S))) :
    own_Goes p e below P (T.setTop (mkF m pc Ls (v :: .int j :: .ref a :: S))) := by
  have F' := F
  obtain ⟨cell, h1, hO, h2, h3, h4⟩ := F'
  have hst : Sto Z h a v := by
    rcases hs with rfl | ⟨y, rfl, Ey⟩
    · exact Or.inl rfl
    · exact Sto.of h1 hO (Ins.self Ey)
  refine own_stR X hx hZ eT F.toF rfl hst i hj hi hd fun T' h' X' e' W' F2 => k T' h' X' e' W' ?_
  refine ⟨cell.setSlot i v, h1.same W', hO, by simp [Cell.setSlot, h2], h3, fun q hq => ?_⟩
  rw [← own_pre_step, ← hv]
  by_cases z : q = i
  · subst z
    rw [if_pos rfl]
    simp [Cell.setSlot, h2, hq]
  · rw [if_neg z, ← h4 q hq]
    exact Array.getElem?_setIfInBounds_ne (Ne.symm z)
theorem own_newIp (g : Nat → Value) (X : Stand p l e R s m args below meth c T locs cells slots) (hx : p.tables.exec = Jvm.exec) (hZ : Z.Warmed39 s.vm) (w : (Cond.arrayClass .int).before a0 Z = true) (eT : T.heap = h)
    {pc : Nat} {Ls : Array Slot} {S : List Value} (hd : decode c.code pc = .ok (.newarray .int, 2)) {n : Int32} (i : Nat) (hi : n.toInt = i) (hb : i * 8 ≤ 536870912) (hc : cells + 1 ≤ R.cells) (hl : slots + i ≤ R.slots)
    (k : ∀ T' h', Stand p l e R s m args below meth c T' locs (cells + 1) (slots + i) → T'.heap = h' → Ext h h' → own_ArrF Z h' h.size .int i (own_pre g (.int 0) 0) → own_Goes p e below P (T'.setTop (mkF m (pc + 2) Ls (.ref h.size :: S)))) :
    own_Goes p e below P (T.setTop (mkF m pc Ls (.int n :: S))) :=
  own_newP X hx hZ (aty := .int) w eT hd i hi hb hc hl fun T' h' X' e' E' F => k T' h' X' e' E' (F.mono fun _ _ => rfl)
theorem own_stIp (g : Nat → Value) (X : Stand p l e R s m args below meth c T locs cells slots) (hx : p.tables.exec = Jvm.exec) (hZ : Z.Warmed39 s.vm) (eT : T.heap = h) {a : Addr} {n : Nat} {i : Nat} (F : own_ArrF Z h a .int n (own_pre g (.int 0) i)) {j x : Int32} (hv : .int x = g i) (hj : j.toInt = i) (hi : i < n)
    {pc : Nat} {Ls : Array Slot} {S : List Value} (hd : decode c.code pc = .ok (.iastore, 1))
    (k : ∀ T' h', Stand p l e R s m args below meth c T' (locs ++ [⟨a, i⟩]) cells slots → T'.heap = h' → Wr h h' a i (.int x) → own_ArrF Z h' a .int n (own_pre g (.int 0) (i + 1)) → own_Goes p e below P (T'.setTop (mkF m (pc + 1) Ls S))) :
    own_Goes p e below P (T.setTop (mkF m pc Ls (.int x :: .int j :: .ref a :: S))) :=
  own_stI X hx hZ eT F i hj hi hd fun T' h' X' e' W' F2 => k T' h' X' e' W' (F2.mono fun q _ => by rw [hv]; exact own_pre_step g (.int 0) i q)
/-! ints -/
theorem own_mask (x : Int32) : (x &&& 2147483647).toInt = x.toInt % 2 ^ 31 := Jvm.Kit.i32_mask x 2147483647 (k := 31) (by decide) (by decide)
theorem own_mod (x n : Int32) (M : Int) (hM : n.toInt = M) (hn : 0 < M) : 0 ≤ ((x &&& 2147483647) % n).toInt ∧ ((x &&& 2147483647) % n).toInt < M := by
  have h1 := own_mask x
  rw [Int32.toInt_mod]
  have h2 : 0 ≤ (x &&& 2147483647).toInt := by omega
  subst hM
  exact ⟨Int.tmod_nonneg _ h2, Int.tmod_lt_of_pos _ hn⟩
theorem own_mask2 (x : Int32) : 0 ≤ (x &&& 3).toInt ∧ (x &&& 3).toInt < 4 := by
  have h1 : (x &&& 3).toInt = x.toInt % 2 ^ 2 := Jvm.Kit.i32_mask x 3 (k := 2) (by decide) (by decide)
  omega
theorem own_mask3 (x : Int32) : 0 ≤ (x &&& 7).toInt ∧ (x &&& 7).toInt < 8 := by
  have h1 : (x &&& 7).toInt = x.toInt % 2 ^ 3 := Jvm.Kit.i32_mask x 7 (k := 3) (by decide) (by decide)
  omega
theorem own_eqInt {x y : Int32} (h : x.toInt = y.toInt) : x = y := Int32.toInt_inj.mp h
theorem own_nat {x : Int32} {n : Nat} (h0 : 0 ≤ x.toInt) (h1 : x.toInt < n) : ∃ i : Nat, i < n ∧ x.toInt = i := ⟨x.toInt.toNat, by omega, by omega⟩
end OwnKit

theorem own_pd0 : parseMethodDescriptor "(II)I" = some ⟨[.int, .int], some .int⟩ := by decide +kernel
theorem own_pd1 : parseMethodDescriptor "(I)I" = some ⟨[.int], some .int⟩ := by decide +kernel
theorem own_pn0 : plainName "com/example/quoin/quoin/internal/SizeClasses" = true := by first | (simp [plainName, overriddenIn]; done) | decide +kernel
theorem own_pn1 : plainName "com/example/quoin/quoin/internal/SizeClassesOfPinLaw" = true := by first | (simp [plainName, overriddenIn]; done) | decide +kernel
theorem own_w0 {a0 : Array Value} {Z : State} (hw : ∀ d ∈ tables_1, d.before a0 Z = true) : (Jvm.Cond.constant "com/example/quoin/quoin/internal/SizeClassesOfPinLaw" 7 (2147483647 : Int32)).before a0 Z = true := hw _ (List.mem_of_getElem? (i := 0) rfl)
theorem own_w1 {a0 : Array Value} {Z : State} (hw : ∀ d ∈ tables_1, d.before a0 Z = true) : (Jvm.Cond.methodLink "com/example/quoin/quoin/internal/SizeClassesOfPinLaw" 8 (⟨"com/example/quoin/quoin/internal/SizeClasses", "of", "(I)I"⟩ : MethodName)).before a0 Z = true := hw _ (List.mem_of_getElem? (i := 1) rfl)
theorem own_w2 {a0 : Array Value} {Z : State} (hw : ∀ d ∈ tables_1, d.before a0 Z = true) : (Jvm.Cond.static (⟨"com/example/quoin/quoin/internal/SizeClasses", "of", "(I)I"⟩ : MethodName)).before a0 Z = true := hw _ (List.mem_of_getElem? (i := 2) rfl)
theorem own_w3 {a0 : Array Value} {Z : State} (hw : ∀ d ∈ tables_1, d.before a0 Z = true) : (Jvm.Cond.initialized "com/example/quoin/quoin/internal/SizeClasses").before a0 Z = true := hw _ (List.mem_of_getElem? (i := 3) rfl)
theorem own_w4 {a0 : Array Value} {Z : State} (hw : ∀ d ∈ tables_1, d.before a0 Z = true) : (Jvm.Cond.code (⟨"com/example/quoin/quoin/internal/SizeClasses", "of", "(I)I"⟩ : MethodName) prog_6_method_2_code 1 (Option.some FieldType.int)).before a0 Z = true := hw _ (List.mem_of_getElem? (i := 4) rfl)
theorem own_w5 {a0 : Array Value} {Z : State} (hw : ∀ d ∈ tables_1, d.before a0 Z = true) : (Jvm.Cond.fieldLink "com/example/quoin/quoin/internal/SizeClasses" 7 "com/example/quoin/quoin/internal/SizeClasses" "CLASS_BY_QUANTA" "[B").before a0 Z = true := hw _ (List.mem_of_getElem? (i := 5) rfl)
theorem own_w6 {a0 : Array Value} {Z : State} (hw : ∀ d ∈ tables_1, d.before a0 Z = true) : (Jvm.Cond.laysStatic "com/example/quoin/quoin/internal/SizeClasses" "CLASS_BY_QUANTA" "[B").before a0 Z = true := hw _ (List.mem_of_getElem? (i := 6) rfl)
theorem own_w7 {a0 : Array Value} {Z : State} (hw : ∀ d ∈ tables_1, d.before a0 Z = true) : (Jvm.Cond.fieldLink "com/example/quoin/quoin/internal/SizeClasses" 13 "com/example/quoin/quoin/internal/SizeClasses" "QUANTUM_SHIFT" "I").before a0 Z = true := hw _ (List.mem_of_getElem? (i := 7) rfl)
theorem own_w8 {a0 : Array Value} {Z : State} (hw : ∀ d ∈ tables_1, d.before a0 Z = true) : (Jvm.Cond.laysStatic "com/example/quoin/quoin/internal/SizeClasses" "QUANTUM_SHIFT" "I").before a0 Z = true := hw _ (List.mem_of_getElem? (i := 8) rfl)
theorem own_w9 {a0 : Array Value} {Z : State} (hw : ∀ d ∈ tables_1, d.before a0 Z = true) : (Jvm.Cond.methodLink "com/example/quoin/quoin/internal/SizeClassesOfPinLaw" 14 (⟨"com/example/quoin/quoin/internal/SizeClassesOfPinLaw", "expected", "(I)I"⟩ : MethodName)).before a0 Z = true := hw _ (List.mem_of_getElem? (i := 9) rfl)
theorem own_w10 {a0 : Array Value} {Z : State} (hw : ∀ d ∈ tables_1, d.before a0 Z = true) : (Jvm.Cond.static (⟨"com/example/quoin/quoin/internal/SizeClassesOfPinLaw", "expected", "(I)I"⟩ : MethodName)).before a0 Z = true := hw _ (List.mem_of_getElem? (i := 10) rfl)
theorem own_w11 {a0 : Array Value} {Z : State} (hw : ∀ d ∈ tables_1, d.before a0 Z = true) : (Jvm.Cond.initialized "com/example/quoin/quoin/internal/SizeClassesOfPinLaw").before a0 Z = true := hw _ (List.mem_of_getElem? (i := 11) rfl)
theorem own_w12 {a0 : Array Value} {Z : State} (hw : ∀ d ∈ tables_1, d.before a0 Z = true) : (Jvm.Cond.code (⟨"com/example/quoin/quoin/internal/SizeClassesOfPinLaw", "expected", "(I)I"⟩ : MethodName) method_4_code 2 (Option.some FieldType.int)).before a0 Z = true := hw _ (List.mem_of_getElem? (i := 12) rfl)
theorem own_w13 {a0 : Array Value} {Z : State} (hw : ∀ d ∈ tables_1, d.before a0 Z = true) : (Jvm.Cond.methodLink "com/example/quoin/quoin/internal/SizeClassesOfPinLaw" 19 (⟨"com/example/quoin/quoin/internal/SizeClassesOfPinLaw", "ceilDiv", "(II)I"⟩ : MethodName)).before a0 Z = true := hw _ (List.mem_of_getElem? (i := 13) rfl)
theorem own_w14 {a0 : Array Value} {Z : State} (hw : ∀ d ∈ tables_1, d.before a0 Z = true) : (Jvm.Cond.static (⟨"com/example/quoin/quoin/internal/SizeClassesOfPinLaw", "ceilDiv", "(II)I"⟩ : MethodName)).before a0 Z = true := hw _ (List.mem_of_getElem? (i := 14) rfl)
theorem own_w15 {a0 : Array Value} {Z : State} (hw : ∀ d ∈ tables_1, d.before a0 Z = true) : (Jvm.Cond.code (⟨"com/example/quoin/quoin/internal/SizeClassesOfPinLaw", "ceilDiv", "(II)I"⟩ : MethodName) method_3_code 2 (Option.some FieldType.int)).before a0 Z = true := hw _ (List.mem_of_getElem? (i := 15) rfl)
def own_tab (i : Nat) : Int32 := if i < 1 then 0 else if i < 34 then i.toInt32 - 1 else if i < 41 then 32 else if i < 49 then 33 else if i < 57 then 34 else if i < 65 then 35 else if i < 81 then 36 else if i < 97 then 37 else if i < 113 then 38 else if i < 129 then 39 else if i < 161 then 40 else if i < 193 then 41 else if i < 225 then 42 else 43
theorem own_or {args : Array Value} {s : State} {G Y : Jvm.Cond} {idx : List Nat} (h : (Cond.or G Y).value args s none s idx = some true) (hG : G.value args s none s idx = some false) : Y.value args s none s idx = some true := by
  simpa [Cond.value, hG] using h
theorem own_eqV {args : Array Value} {s : State} {a b : Term} {v : Int32} {idx : List Nat} (h1 : (Cond.eq a b).value args s none s idx = some true) (h2 : b.eval args s none idx s = some (.int v)) : a.eval args s none idx s = some (.int v) := by
  simp only [Cond.value, h2] at h1
  cases ha : a.eval args s none idx s with
  | none => simp [ha] at h1
  | some x => cases x <;> simp [ha] at h1 ⊢ <;> exact h1
theorem own_rng0 {args : Array Value} {s : State} {t : Term} {a : Addr} {cell : Cell} {lo : Int32} {Y : Jvm.Cond} {i : Nat} (hall : (Cond.all t (.or (.lt (.index 0) (.int lo)) Y)).value args s none s [] = some true) (ht : t.eval args s none [] s = some (.ref a)) (hat : s.arrayAt? a = some cell) (hs : cell.slots.size < 2 ^ 31) (hi' : i < cell.slots.size) (h1 : lo.toInt ≤ i) : Y.value args s none s [i] = some true := by
  have q := Cond.all_elim ht hat hall i hi'
  have hx : (Term.index 0).eval args s none [i] s = some (.int i.toInt32) := Term.index_eval _
  have hI : i.toInt32.toInt = i := len_toInt (by omega)
  exact own_or q (nay (Cond.lt_ints hx rfl) (by rw [Int32.lt_iff_toInt_lt]; omega))
theorem own_rng1 {args : Array Value} {s : State} {hi : Int32} {Y : Jvm.Cond} {i : Nat} (h : (Cond.or (.le (.int hi) (.index 0)) Y).value args s none s [i] = some true) (hs : i < 2 ^ 31) (h2 : (i : Int) < hi.toInt) : Y.value args s none s [i] = some true := by
  have hx : (Term.index 0).eval args s none [i] s = some (.int i.toInt32) := Term.index_eval _
  have hI : i.toInt32.toInt = i := len_toInt (by omega)
  exact own_or h (nay (Cond.le_ints rfl hx) (by rw [Int32.le_iff_toInt_le]; omega))
theorem own_elI {args : Array Value} {s : State} {t V : Term} {a : Addr} {cell : Cell} {v : Int32} {i : Nat} (h : (Cond.eq (.elem t (.index 0)) V).value args s none s [i] = some true) (ht : t.eval args s none [i] s = some (.ref a)) (hc : s.heap[a]? = some cell) (hs : i < 2 ^ 31) (hV : V.eval args s none [i] s = some (.int v)) : cell.slots[i]? = some (.int v) := by
  have hx : (Term.index 0).eval args s none [i] s = some (.int i.toInt32) := Term.index_eval _
  have hI : i.toInt32.toInt = i := len_toInt (by omega)
  have q6 := (elem_in (own_eqV h hV) ht hx hc).2
  rw [own_clamp hI] at q6
  exact q6
def own_W (Z : State) (h : Heap) (A : Nat → Addr) : Prop :=
  Sta Z h "com/example/quoin/quoin/internal/SizeClasses" "CLASS_BY_QUANTA" "[B" (.ref (A 0)) ∧
  Sta Z h "com/example/quoin/quoin/internal/SizeClasses" "QUANTUM_SHIFT" "I" (.int (4 : Int32)) ∧
  own_ArrF Z h (A 0) .byte 257 (fun i => .int (own_tab i))
theorem own_f0 {Z : State} {h : Heap} {A : Nat → Addr} (W : own_W Z h A) : Sta Z h "com/example/quoin/quoin/internal/SizeClasses" "CLASS_BY_QUANTA" "[B" (.ref (A 0)) := W.1
theorem own_f1 {Z : State} {h : Heap} {A : Nat → Addr} (W : own_W Z h A) : Sta Z h "com/example/quoin/quoin/internal/SizeClasses" "QUANTUM_SHIFT" "I" (.int (4 : Int32)) := W.2.1
theorem own_f2 {Z : State} {h : Heap} {A : Nat → Addr} (W : own_W Z h A) : own_ArrF Z h (A 0) .byte 257 (fun i => .int (own_tab i)) := W.2.2
theorem own_Wext {Z : State} {h h' : Heap} {A : Nat → Addr} (W : own_W Z h A) (E : Ext h h') : own_W Z h' A := ⟨(own_f0 W).ext E, (own_f1 W).ext E, (own_f2 W).ext E⟩
theorem own_world {s : State} {args : Array Value} (hw : ∀ d ∈ tables_1, d.before args s = true) (hn : narrow_1.value args s none s [] = some true) : ∃ A : Nat → Addr, own_W s s.heap A := by
  obtain ⟨n0, r0⟩ := and_e hn
  obtain ⟨n1, r1⟩ := and_e r0
  obtain ⟨n2, r2⟩ := and_e r1
  obtain ⟨n3, r3⟩ := and_e r2
  obtain ⟨n4, r4⟩ := and_e r3
  obtain ⟨n5, r5⟩ := and_e r4
  obtain ⟨n6, r6⟩ := and_e r5
  obtain ⟨n7, r7⟩ := and_e r6
  obtain ⟨n8, r8⟩ := and_e r7
  obtain ⟨n9, r9⟩ := and_e r8
  obtain ⟨n10, r10⟩ := and_e r9
  obtain ⟨n11, r11⟩ := and_e r10
  obtain ⟨n12, r12⟩ := and_e r11
  obtain ⟨n13, r13⟩ := and_e r12
  obtain ⟨n14, r14⟩ := and_e r13
  obtain ⟨n15, r15⟩ := and_e r14
  obtain ⟨a0, v0⟩ := arr_v n0
  exact ⟨fun n => [a0].getD n 0, Sta.start v0 (Or.inr ⟨(own_w3 hw), (own_w6 hw)⟩), Sta.start (own_eqI n2) (Or.inr ⟨(own_w3 hw), (own_w8 hw)⟩), own_arrF v0 n0 n1 (by decide) (fun cell hat hc hs i hi => by
    have hs31 : cell.slots.size < 2 ^ 31 := by omega
    have hi' : i < cell.slots.size := by omega
    have hI : i < 2 ^ 31 := by omega
    have vI : (Term.static "com/example/quoin/quoin/internal/SizeClasses" "CLASS_BY_QUANTA" "[B").eval args s none [i] s = some (.ref a0) := v0
    show cell.slots[i]? = some (.int (own_tab i))
    unfold own_tab
    by_cases c0 : i < 1
    · rw [if_pos c0]; obtain rfl : i = 0 := by omega
      exact own_el v0 hc (own_eqI n3) (by decide)
    rw [if_neg c0]
    by_cases c1 : i < 34
    · rw [if_pos c1]
      have z1 : (1 : Int32).toInt = 1 := by decide
      have z2 : (34 : Int32).toInt = 34 := by decide
      have hx : (Term.index 0).eval args s none [i] s = some (.int i.toInt32) := Term.index_eval _
      exact own_elI (own_rng1 (own_rng0 n4 v0 hat hs31 hi' (by omega)) hI (by omega)) vI hc hI (by simp [Term.eval])
    rw [if_neg c1]
    by_cases c2 : i < 41
    · rw [if_pos c2]
      have z1 : (34 : Int32).toInt = 34 := by decide
      have z2 : (41 : Int32).toInt = 41 := by decide
      exact own_elI (own_rng1 (own_rng0 n5 v0 hat hs31 hi' (by omega)) hI (by omega)) vI hc hI rfl
    rw [if_neg c2]
    by_cases c3 : i < 49
    · rw [if_pos c3]
      have z1 : (41 : Int32).toInt = 41 := by decide
      have z2 : (49 : Int32).toInt = 49 := by decide
      exact own_elI (own_rng1 (own_rng0 n6 v0 hat hs31 hi' (by omega)) hI (by omega)) vI hc hI rfl
    rw [if_neg c3]
    by_cases c4 : i < 57
    · rw [if_pos c4]
      have z1 : (49 : Int32).toInt = 49 := by decide
      have z2 : (57 : Int32).toInt = 57 := by decide
      exact own_elI (own_rng1 (own_rng0 n7 v0 hat hs31 hi' (by omega)) hI (by omega)) vI hc hI rfl
    rw [if_neg c4]
    by_cases c5 : i < 65
    · rw [if_pos c5]
      have z1 : (57 : Int32).toInt = 57 := by decide
      have z2 : (65 : Int32).toInt = 65 := by decide
      exact own_elI (own_rng1 (own_rng0 n8 v0 hat hs31 hi' (by omega)) hI (by omega)) vI hc hI rfl
    rw [if_neg c5]
    by_cases c6 : i < 81
    · rw [if_pos c6]
      have z1 : (65 : Int32).toInt = 65 := by decide
      have z2 : (81 : Int32).toInt = 81 := by decide
      exact own_elI (own_rng1 (own_rng0 n9 v0 hat hs31 hi' (by omega)) hI (by omega)) vI hc hI rfl
    rw [if_neg c6]
    by_cases c7 : i < 97
    · rw [if_pos c7]
      have z1 : (81 : Int32).toInt = 81 := by decide
      have z2 : (97 : Int32).toInt = 97 := by decide
      exact own_elI (own_rng1 (own_rng0 n10 v0 hat hs31 hi' (by omega)) hI (by omega)) vI hc hI rfl
    rw [if_neg c7]
    by_cases c8 : i < 113
    · rw [if_pos c8]
      have z1 : (97 : Int32).toInt = 97 := by decide
      have z2 : (113 : Int32).toInt = 113 := by decide
      exact own_elI (own_rng1 (own_rng0 n11 v0 hat hs31 hi' (by omega)) hI (by omega)) vI hc hI rfl
    rw [if_neg c8]
    by_cases c9 : i < 129
    · rw [if_pos c9]
      have z1 : (113 : Int32).toInt = 113 := by decide
      have z2 : (129 : Int32).toInt = 129 := by decide
      exact own_elI (own_rng1 (own_rng0 n12 v0 hat hs31 hi' (by omega)) hI (by omega)) vI hc hI rfl
    rw [if_neg c9]
    by_cases c10 : i < 161
    · rw [if_pos c10]
      have z1 : (129 : Int32).toInt = 129 := by decide
      have z2 : (161 : Int32).toInt = 161 := by decide
      exact own_elI (own_rng1 (own_rng0 n13 v0 hat hs31 hi' (by omega)) hI (by omega)) vI hc hI rfl
    rw [if_neg c10]
    by_cases c11 : i < 193
    · rw [if_pos c11]
      have z1 : (161 : Int32).toInt = 161 := by decide
      have z2 : (193 : Int32).toInt = 193 := by decide
      exact own_elI (own_rng1 (own_rng0 n14 v0 hat hs31 hi' (by omega)) hI (by omega)) vI hc hI rfl
    rw [if_neg c11]
    by_cases c12 : i < 225
    · rw [if_pos c12]
      have z1 : (193 : Int32).toInt = 193 := by decide
      have z2 : (225 : Int32).toInt = 225 := by decide
      exact own_elI (own_rng1 (own_rng0 n15 v0 hat hs31 hi' (by omega)) hI (by omega)) vI hc hI rfl
    rw [if_neg c12]
    have z1 : (225 : Int32).toInt = 225 := by decide
    exact own_elI (own_rng0 r15 v0 hat hs31 hi' (by omega)) vI hc hI rfl)⟩
theorem own_ix {c0 : Int32} (h0 : 0 ≤ c0.toInt ∧ c0.toInt < 4097) : (XT.ushr ((c0 + (16 : Int32)) - (1 : Int32)) (4 : Int32)).toInt = (c0.toInt + 15) / 16 := by
  have z1 : (16 : Int32).toInt = 16 := by decide
  have z2 : (1 : Int32).toInt = 1 := by decide
  have q1 : (c0 + (16 : Int32)).toInt = c0.toInt + 16 := by rw [Jvm.Kit.i32_add (by omega) (by omega), z1]
  have q2 : ((c0 + (16 : Int32)) - (1 : Int32)).toInt = c0.toInt + 15 := by rw [Jvm.Kit.i32_sub (by omega) (by omega), q1, z2]; omega
  unfold XT.ushr
  rw [Jvm.Kit.i32_iushr (by rw [Jvm.Kit.i32_nonneg]; omega) (k := 4) (by decide) (by decide), q2]
  rfl
theorem own_d1_0 : decode prog_6_method_2_code 0 = .ok (.getstatic 7, 3) := by decide +kernel
theorem own_d1_3 : decode prog_6_method_2_code 3 = .ok (.iload_n 0, 1) := by decide +kernel
theorem own_d1_4 : decode prog_6_method_2_code 4 = .ok (.bipush 16, 2) := by decide +kernel
theorem own_d1_6 : decode prog_6_method_2_code 6 = .ok (.iadd, 1) := by decide +kernel
theorem own_d1_7 : decode prog_6_method_2_code 7 = .ok (.iconst 1, 1) := by decide +kernel
theorem own_d1_8 : decode prog_6_method_2_code 8 = .ok (.isub, 1) := by decide +kernel
theorem own_d1_9 : decode prog_6_method_2_code 9 = .ok (.getstatic 13, 3) := by decide +kernel
theorem own_d1_12 : decode prog_6_method_2_code 12 = .ok (.iushr, 1) := by decide +kernel
theorem own_d1_13 : decode prog_6_method_2_code 13 = .ok (.baload, 1) := by decide +kernel
theorem own_d1_14 : decode prog_6_method_2_code 14 = .ok (.ireturn, 1) := by decide +kernel
def own_r_of (A : Nat → Addr) (c0 : Int32) (i : Nat) : Int32 := (own_tab i)
set_option maxRecDepth 65536 in
set_option maxHeartbeats 40000000 in
theorem rm_of (l : Launch) {Z : State} {a0 : Array Value} (hw : ∀ d ∈ tables_1, d.before a0 Z = true) {A : Nat → Addr} {h0 : Heap} (W : own_W Z h0 A) (c0 : Int32) (i : Nat) (hj : (XT.ushr ((c0 + (16 : Int32)) - (1 : Int32)) (4 : Int32)).toInt = i) (hi : i < 257) :
    own_Does l Z (⟨"com/example/quoin/quoin/internal/SizeClasses", "of", "(I)I"⟩ : MethodName) prog_6_method_2_code 1 (some .int) [] ({ frames := 0, cells := 0, slots := 0, locals := 0 } : Room) #[(.int c0)] h0 (own_Is (.int (own_r_of A c0 i)) h0) := by
  refine own_body own_pn0 ?_
  intro p e s m below meth c T0 hx hby hml hret hlk hnm hown hZ X0 e0
  refine own_tr (XT.entry (Ls := #[.val (.int c0)]) rfl) ?_
  show own_Goes p e below _ (T0.setTop (mkF m 0 #[.val (.int c0)] []))
  refine own_getS X0 hx hZ hown (own_w5 hw) e0 (own_f0 W) (hb hby own_d1_0) fun T1 X1 e1 => ?_
  show own_Goes p e below _ (T1.setTop (mkF m 3 #[.val (.int c0)] [(.ref (A 0))]))
  refine own_by (fun _ zz => XS.iloadN X1.here hx rfl (hb hby own_d1_3) rfl zz) ?_
  show own_Goes p e below _ (T1.setTop (mkF m 4 #[.val (.int c0)] [(.int c0), (.ref (A 0))]))
  refine own_by (fun _ zz => XS.bipush X1.here hx rfl (hb hby own_d1_4) zz) ?_
  show own_Goes p e below _ (T1.setTop (mkF m 6 #[.val (.int c0)] [(.int (16 : Int32)), (.int c0), (.ref (A 0))]))
  refine own_by (fun _ zz => XS.iadd X1.here hx rfl (hb hby own_d1_6) rfl zz) ?_
  show own_Goes p e below _ (T1.setTop (mkF m 7 #[.val (.int c0)] [(.int (c0 + (16 : Int32))), (.ref (A 0))]))
  refine own_by (fun _ zz => XS.iconst X1.here hx rfl (hb hby own_d1_7) zz) ?_
  show own_Goes p e below _ (T1.setTop (mkF m 8 #[.val (.int c0)] [(.int (1 : Int32)), (.int (c0 + (16 : Int32))), (.ref (A 0))]))
  refine own_by (fun _ zz => XS.isub X1.here hx rfl (hb hby own_d1_8) rfl zz) ?_
  show own_Goes p e below _ (T1.setTop (mkF m 9 #[.val (.int c0)] [(.int ((c0 + (16 : Int32)) - (1 : Int32))), (.ref (A 0))]))
  refine own_getS X1 hx hZ hown (own_w7 hw) e1 (own_f1 W) (hb hby own_d1_9) fun T2 X2 e2 => ?_
  show own_Goes p e below _ (T2.setTop (mkF m 12 #[.val (.int c0)] [(.int (4 : Int32)), (.int ((c0 + (16 : Int32)) - (1 : Int32))), (.ref (A 0))]))
  refine own_by (fun _ zz => XT.iushr X2.here hx rfl (hb hby own_d1_12) rfl zz) ?_
  show own_Goes p e below _ (T2.setTop (mkF m 13 #[.val (.int c0)] [(.int (XT.ushr ((c0 + (16 : Int32)) - (1 : Int32)) (4 : Int32))), (.ref (A 0))]))
  refine own_baload X2 hx hZ e2 (own_f2 W) i hj hi (v := (.int (own_tab i))) rfl (hb hby own_d1_13) ?_
  show own_Goes p e below _ (T2.setTop (mkF m 14 #[.val (.int c0)] [(.int (own_tab i))]))
  refine own_retI X2 hx hlk hret (hb hby own_d1_14) (by decide) (by decide) ?_
  exact ⟨by unfold own_r_of; rfl, rfl, e2⟩
theorem own_d3_0 : decode method_3_code 0 = .ok (.iload_n 0, 1) := by decide +kernel
theorem own_d3_1 : decode method_3_code 1 = .ok (.iload_n 1, 1) := by decide +kernel
theorem own_d3_2 : decode method_3_code 2 = .ok (.iadd, 1) := by decide +kernel
theorem own_d3_3 : decode method_3_code 3 = .ok (.iconst 1, 1) := by decide +kernel
theorem own_d3_4 : decode method_3_code 4 = .ok (.isub, 1) := by decide +kernel
theorem own_d3_5 : decode method_3_code 5 = .ok (.iload_n 1, 1) := by decide +kernel
theorem own_d3_6 : decode method_3_code 6 = .ok (.idiv, 1) := by decide +kernel
theorem own_d3_7 : decode method_3_code 7 = .ok (.ireturn, 1) := by decide +kernel
def own_r_ceilDiv (A : Nat → Addr) (x : Int32) (y : Int32) : Int32 := (((x + y) - (1 : Int32)) / y)
set_option maxRecDepth 65536 in
set_option maxHeartbeats 40000000 in
theorem rm_ceilDiv (l : Launch) {Z : State} {a0 : Array Value} (hw : ∀ d ∈ tables_1, d.before a0 Z = true) {A : Nat → Addr} {h0 : Heap} (W : own_W Z h0 A) (x : Int32) (y : Int32) (hy : y ≠ 0) :
    own_Does l Z (⟨"com/example/quoin/quoin/internal/SizeClassesOfPinLaw", "ceilDiv", "(II)I"⟩ : MethodName) method_3_code 2 (some .int) [] ({ frames := 0, cells := 0, slots := 0, locals := 0 } : Room) #[(.int x), (.int y)] h0 (own_Is (.int (own_r_ceilDiv A x y)) h0) := by
  refine own_body own_pn1 ?_
  intro p e s m below meth c T0 hx hby hml hret hlk hnm hown hZ X0 e0
  refine own_tr (XT.entry (Ls := #[.val (.int x), .val (.int y)]) rfl) ?_
  show own_Goes p e below _ (T0.setTop (mkF m 0 #[.val (.int x), .val (.int y)] []))
  refine own_by (fun _ zz => XS.iloadN X0.here hx rfl (hb hby own_d3_0) rfl zz) ?_
  show own_Goes p e below _ (T0.setTop (mkF m 1 #[.val (.int x), .val (.int y)] [(.int x)]))
  refine own_by (fun _ zz => XS.iloadN X0.here hx rfl (hb hby own_d3_1) rfl zz) ?_
  show own_Goes p e below _ (T0.setTop (mkF m 2 #[.val (.int x), .val (.int y)] [(.int y), (.int x)]))
  refine own_by (fun _ zz => XS.iadd X0.here hx rfl (hb hby own_d3_2) rfl zz) ?_
  show own_Goes p e below _ (T0.setTop (mkF m 3 #[.val (.int x), .val (.int y)] [(.int (x + y))]))
  refine own_by (fun _ zz => XS.iconst X0.here hx rfl (hb hby own_d3_3) zz) ?_
  show own_Goes p e below _ (T0.setTop (mkF m 4 #[.val (.int x), .val (.int y)] [(.int (1 : Int32)), (.int (x + y))]))
  refine own_by (fun _ zz => XS.isub X0.here hx rfl (hb hby own_d3_4) rfl zz) ?_
  show own_Goes p e below _ (T0.setTop (mkF m 5 #[.val (.int x), .val (.int y)] [(.int ((x + y) - (1 : Int32)))]))
  refine own_by (fun _ zz => XS.iloadN X0.here hx rfl (hb hby own_d3_5) rfl zz) ?_
  show own_Goes p e below _ (T0.setTop (mkF m 6 #[.val (.int x), .val (.int y)] [(.int y), (.int ((x + y) - (1 : Int32)))]))
  refine own_by (fun _ zz => XS.idiv X0.here hx rfl (hb hby own_d3_6) rfl hy zz) ?_
  show own_Goes p e below _ (T0.setTop (mkF m 7 #[.val (.int x), .val (.int y)] [(.int (((x + y) - (1 : Int32)) / y))]))
  refine own_retI X0 hx hlk hret (hb hby own_d3_7) (by decide) (by decide) ?_
  exact ⟨by unfold own_r_ceilDiv; rfl, rfl, e0⟩
theorem own_d2_0 : decode method_4_code 0 = .ok (.iload_n 0, 1) := by decide +kernel
theorem own_d2_1 : decode method_4_code 1 = .ok (.sipush 512, 3) := by decide +kernel
theorem own_d2_4 : decode method_4_code 4 = .ok (.if_icmp .gt 20, 3) := by decide +kernel
theorem own_d2_7 : decode method_4_code 7 = .ok (.iload_n 0, 1) := by decide +kernel
theorem own_d2_8 : decode method_4_code 8 = .ok (.bipush 16, 2) := by decide +kernel
theorem own_d2_10 : decode method_4_code 10 = .ok (.invokestatic 19, 3) := by decide +kernel
theorem own_d2_13 : decode method_4_code 13 = .ok (.istore_n 1, 1) := by decide +kernel
theorem own_d2_14 : decode method_4_code 14 = .ok (.iload_n 1, 1) := by decide +kernel
theorem own_d2_15 : decode method_4_code 15 = .ok (.ifCond .ne 5, 3) := by decide +kernel
theorem own_d2_18 : decode method_4_code 18 = .ok (.iconst 0, 1) := by decide +kernel
theorem own_d2_19 : decode method_4_code 19 = .ok (.ireturn, 1) := by decide +kernel
theorem own_d2_20 : decode method_4_code 20 = .ok (.iload_n 1, 1) := by decide +kernel
theorem own_d2_21 : decode method_4_code 21 = .ok (.iconst 1, 1) := by decide +kernel
theorem own_d2_22 : decode method_4_code 22 = .ok (.isub, 1) := by decide +kernel
theorem own_d2_23 : decode method_4_code 23 = .ok (.ireturn, 1) := by decide +kernel
theorem own_d2_24 : decode method_4_code 24 = .ok (.iload_n 0, 1) := by decide +kernel
theorem own_d2_25 : decode method_4_code 25 = .ok (.sipush 1024, 3) := by decide +kernel
theorem own_d2_28 : decode method_4_code 28 = .ok (.if_icmp .gt 18, 3) := by decide +kernel
theorem own_d2_31 : decode method_4_code 31 = .ok (.bipush 31, 2) := by decide +kernel
theorem own_d2_33 : decode method_4_code 33 = .ok (.iload_n 0, 1) := by decide +kernel
theorem own_d2_34 : decode method_4_code 34 = .ok (.sipush 512, 3) := by decide +kernel
theorem own_d2_37 : decode method_4_code 37 = .ok (.isub, 1) := by decide +kernel
theorem own_d2_38 : decode method_4_code 38 = .ok (.sipush 128, 3) := by decide +kernel
theorem own_d2_41 : decode method_4_code 41 = .ok (.invokestatic 19, 3) := by decide +kernel
theorem own_d2_44 : decode method_4_code 44 = .ok (.iadd, 1) := by decide +kernel
theorem own_d2_45 : decode method_4_code 45 = .ok (.ireturn, 1) := by decide +kernel
theorem own_d2_46 : decode method_4_code 46 = .ok (.iload_n 0, 1) := by decide +kernel
theorem own_d2_47 : decode method_4_code 47 = .ok (.sipush 2048, 3) := by decide +kernel
theorem own_d2_50 : decode method_4_code 50 = .ok (.if_icmp .gt 18, 3) := by decide +kernel
theorem own_d2_53 : decode method_4_code 53 = .ok (.bipush 35, 2) := by decide +kernel
theorem own_d2_55 : decode method_4_code 55 = .ok (.iload_n 0, 1) := by decide +kernel
theorem own_d2_56 : decode method_4_code 56 = .ok (.sipush 1024, 3) := by decide +kernel
theorem own_d2_59 : decode method_4_code 59 = .ok (.isub, 1) := by decide +kernel
theorem own_d2_60 : decode method_4_code 60 = .ok (.sipush 256, 3) := by decide +kernel
theorem own_d2_63 : decode method_4_code 63 = .ok (.invokestatic 19, 3) := by decide +kernel
theorem own_d2_66 : decode method_4_code 66 = .ok (.iadd, 1) := by decide +kernel
theorem own_d2_67 : decode method_4_code 67 = .ok (.ireturn, 1) := by decide +kernel
theorem own_d2_68 : decode method_4_code 68 = .ok (.bipush 39, 2) := by decide +kernel
theorem own_d2_70 : decode method_4_code 70 = .ok (.iload_n 0, 1) := by decide +kernel
theorem own_d2_71 : decode method_4_code 71 = .ok (.sipush 2048, 3) := by decide +kernel
theorem own_d2_74 : decode method_4_code 74 = .ok (.isub, 1) := by decide +kernel
theorem own_d2_75 : decode method_4_code 75 = .ok (.sipush 512, 3) := by decide +kernel
theorem own_d2_78 : decode method_4_code 78 = .ok (.invokestatic 19, 3) := by decide +kernel
theorem own_d2_81 : decode method_4_code 81 = .ok (.iadd, 1) := by decide +kernel
theorem own_d2_82 : decode method_4_code 82 = .ok (.ireturn, 1) := by decide +kernel
def own_r_expected (A : Nat → Addr) (c0 : Int32) : Int32 := if (512 : Int32) < c0 then if (1024 : Int32) < c0 then if (2048 : Int32) < c0 then ((39 : Int32) + (own_r_ceilDiv A (c0 - (2048 : Int32)) (512 : Int32))) else ((35 : Int32) + (own_r_ceilDiv A (c0 - (1024 : Int32)) (256 : Int32))) else ((31 : Int32) + (own_r_ceilDiv A (c0 - (512 : Int32)) (128 : Int32))) else if (own_r_ceilDiv A c0 (16 : Int32)) = 0 then (0 : Int32) else ((own_r_ceilDiv A c0 (16 : Int32)) - (1 : Int32))
set_option maxRecDepth 65536 in
set_option maxHeartbeats 40000000 in
theorem rm_expected (l : Launch) {Z : State} {a0 : Array Value} (hw : ∀ d ∈ tables_1, d.before a0 Z = true) {A : Nat → Addr} {h0 : Heap} (W : own_W Z h0 A) (c0 : Int32)  :
    own_Does l Z (⟨"com/example/quoin/quoin/internal/SizeClassesOfPinLaw", "expected", "(I)I"⟩ : MethodName) method_4_code 2 (some .int) [] ({ frames := 1, cells := 0, slots := 0, locals := 14 } : Room) #[(.int c0)] h0 (own_Is (.int (own_r_expected A c0)) h0) := by
  refine own_body own_pn1 ?_
  intro p e s m below meth c T0 hx hby hml hret hlk hnm hown hZ X0 e0
  refine own_tr (XT.entry (Ls := #[.val (.int c0), .unset]) rfl) ?_
  show own_Goes p e below _ (T0.setTop (mkF m 0 #[.val (.int c0), .unset] []))
  refine own_by (fun _ zz => XS.iloadN X0.here hx rfl (hb hby own_d2_0) rfl zz) ?_
  show own_Goes p e below _ (T0.setTop (mkF m 1 #[.val (.int c0), .unset] [(.int c0)]))
  refine own_by (fun _ zz => XS.sipush X0.here hx rfl (hb hby own_d2_1) zz) ?_
  show own_Goes p e below _ (T0.setTop (mkF m 4 #[.val (.int c0), .unset] [(.int (512 : Int32)), (.int c0)]))
  by_cases q1 : (512 : Int32) < c0
  · refine own_by (fun _ zz => XS.icmpYes X0.here hx rfl (pc0 := 4) (pc' := 24) rfl (hb hby own_d2_4) rfl (XT.ii_gt_t q1) (by decide) (by decide) zz) ?_
    show own_Goes p e below _ (T0.setTop (mkF m 24 #[.val (.int c0), .unset] []))
    refine own_by (fun _ zz => XS.iloadN X0.here hx rfl (hb hby own_d2_24) rfl zz) ?_
    show own_Goes p e below _ (T0.setTop (mkF m 25 #[.val (.int c0), .unset] [(.int c0)]))
    refine own_by (fun _ zz => XS.sipush X0.here hx rfl (hb hby own_d2_25) zz) ?_
    show own_Goes p e below _ (T0.setTop (mkF m 28 #[.val (.int c0), .unset] [(.int (1024 : Int32)), (.int c0)]))
    by_cases q2 : (1024 : Int32) < c0
    · refine own_by (fun _ zz => XS.icmpYes X0.here hx rfl (pc0 := 28) (pc' := 46) rfl (hb hby own_d2_28) rfl (XT.ii_gt_t q2) (by decide) (by decide) zz) ?_
      show own_Goes p e below _ (T0.setTop (mkF m 46 #[.val (.int c0), .unset] []))
      refine own_by (fun _ zz => XS.iloadN X0.here hx rfl (hb hby own_d2_46) rfl zz) ?_
      show own_Goes p e below _ (T0.setTop (mkF m 47 #[.val (.int c0), .unset] [(.int c0)]))
      refine own_by (fun _ zz => XS.sipush X0.here hx rfl (hb hby own_d2_47) zz) ?_
      show own_Goes p e below _ (T0.setTop (mkF m 50 #[.val (.int c0), .unset] [(.int (2048 : Int32)), (.int c0)]))
      by_cases q3 : (2048 : Int32) < c0
      · refine own_by (fun _ zz => XS.icmpYes X0.here hx rfl (pc0 := 50) (pc' := 68) rfl (hb hby own_d2_50) rfl (XT.ii_gt_t q3) (by decide) (by decide) zz) ?_
        show own_Goes p e below _ (T0.setTop (mkF m 68 #[.val (.int c0), .unset] []))
        refine own_by (fun _ zz => XS.bipush X0.here hx rfl (hb hby own_d2_68) zz) ?_
        show own_Goes p e below _ (T0.setTop (mkF m 70 #[.val (.int c0), .unset] [(.int (39 : Int32))]))
        refine own_by (fun _ zz => XS.iloadN X0.here hx rfl (hb hby own_d2_70) rfl zz) ?_
        show own_Goes p e below _ (T0.setTop (mkF m 71 #[.val (.int c0), .unset] [(.int c0), (.int (39 : Int32))]))
        refine own_by (fun _ zz => XS.sipush X0.here hx rfl (hb hby own_d2_71) zz) ?_
        show own_Goes p e below _ (T0.setTop (mkF m 74 #[.val (.int c0), .unset] [(.int (2048 : Int32)), (.int c0), (.int (39 : Int32))]))
        refine own_by (fun _ zz => XS.isub X0.here hx rfl (hb hby own_d2_74) rfl zz) ?_
        show own_Goes p e below _ (T0.setTop (mkF m 75 #[.val (.int c0), .unset] [(.int (c0 - (2048 : Int32))), (.int (39 : Int32))]))
        refine own_by (fun _ zz => XS.sipush X0.here hx rfl (hb hby own_d2_75) zz) ?_
        show own_Goes p e below _ (T0.setTop (mkF m 78 #[.val (.int c0), .unset] [(.int (512 : Int32)), (.int (c0 - (2048 : Int32))), (.int (39 : Int32))]))
        refine own_callS0 X0 hx hZ (W := 1) (argsL := [(.int (c0 - (2048 : Int32))), (.int (512 : Int32))]) (rest := [(.int (39 : Int32))]) hown (own_w13 hw) (own_w14 hw) (own_w11 hw) (own_w15 hw) (by decide) e0 (rm_ceilDiv l hw W (c0 - (2048 : Int32)) (512 : Int32) (by decide)) (by decide) (by decide) (by decide) (by decide) (by rw [hml]; rfl) (lenOf own_pd0 rfl) rfl (Nat.le_of_ble_eq_true rfl) (hb hby own_d2_78) fun T4 X4 e4 => ?_
        show own_Goes p e below _ (T4.setTop (mkF m 81 #[.val (.int c0), .unset] [(.int (own_r_ceilDiv A (c0 - (2048 : Int32)) (512 : Int32))), (.int (39 : Int32))]))
        refine own_by (fun _ zz => XS.iadd X4.here hx rfl (hb hby own_d2_81) rfl zz) ?_
        show own_Goes p e below _ (T4.setTop (mkF m 82 #[.val (.int c0), .unset] [(.int ((39 : Int32) + (own_r_ceilDiv A (c0 - (2048 : Int32)) (512 : Int32))))]))
        refine own_retI X4 hx hlk hret (hb hby own_d2_82) (by decide) (by decide) ?_
        exact ⟨by unfold own_r_expected; rw [if_pos q1, if_pos q2, if_pos q3] <;> rfl, rfl, e4⟩
      · refine own_by (fun _ zz => XS.icmpNo X0.here hx rfl (hb hby own_d2_50) rfl (XT.ii_gt_f q3) zz) ?_
        show own_Goes p e below _ (T0.setTop (mkF m 53 #[.val (.int c0), .unset] []))
        refine own_by (fun _ zz => XS.bipush X0.here hx rfl (hb hby own_d2_53) zz) ?_
        show own_Goes p e below _ (T0.setTop (mkF m 55 #[.val (.int c0), .unset] [(.int (35 : Int32))]))
        refine own_by (fun _ zz => XS.iloadN X0.here hx rfl (hb hby own_d2_55) rfl zz) ?_
        show own_Goes p e below _ (T0.setTop (mkF m 56 #[.val (.int c0), .unset] [(.int c0), (.int (35 : Int32))]))
        refine own_by (fun _ zz => XS.sipush X0.here hx rfl (hb hby own_d2_56) zz) ?_
        show own_Goes p e below _ (T0.setTop (mkF m 59 #[.val (.int c0), .unset] [(.int (1024 : Int32)), (.int c0), (.int (35 : Int32))]))
        refine own_by (fun _ zz => XS.isub X0.here hx rfl (hb hby own_d2_59) rfl zz) ?_
        show own_Goes p e below _ (T0.setTop (mkF m 60 #[.val (.int c0), .unset] [(.int (c0 - (1024 : Int32))), (.int (35 : Int32))]))
        refine own_by (fun _ zz => XS.sipush X0.here hx rfl (hb hby own_d2_60) zz) ?_
        show own_Goes p e below _ (T0.setTop (mkF m 63 #[.val (.int c0), .unset] [(.int (256 : Int32)), (.int (c0 - (1024 : Int32))), (.int (35 : Int32))]))
        refine own_callS0 X0 hx hZ (W := 1) (argsL := [(.int (c0 - (1024 : Int32))), (.int (256 : Int32))]) (rest := [(.int (35 : Int32))]) hown (own_w13 hw) (own_w14 hw) (own_w11 hw) (own_w15 hw) (by decide) e0 (rm_ceilDiv l hw W (c0 - (1024 : Int32)) (256 : Int32) (by decide)) (by decide) (by decide) (by decide) (by decide) (by rw [hml]; rfl) (lenOf own_pd0 rfl) rfl (Nat.le_of_ble_eq_true rfl) (hb hby own_d2_63) fun T5 X5 e5 => ?_
        show own_Goes p e below _ (T5.setTop (mkF m 66 #[.val (.int c0), .unset] [(.int (own_r_ceilDiv A (c0 - (1024 : Int32)) (256 : Int32))), (.int (35 : Int32))]))
        refine own_by (fun _ zz => XS.iadd X5.here hx rfl (hb hby own_d2_66) rfl zz) ?_
        show own_Goes p e below _ (T5.setTop (mkF m 67 #[.val (.int c0), .unset] [(.int ((35 : Int32) + (own_r_ceilDiv A (c0 - (1024 : Int32)) (256 : Int32))))]))
        refine own_retI X5 hx hlk hret (hb hby own_d2_67) (by decide) (by decide) ?_
        exact ⟨by unfold own_r_expected; rw [if_pos q1, if_pos q2, if_neg q3] <;> rfl, rfl, e5⟩
    · refine own_by (fun _ zz => XS.icmpNo X0.here hx rfl (hb hby own_d2_28) rfl (XT.ii_gt_f q2) zz) ?_
      show own_Goes p e below _ (T0.setTop (mkF m 31 #[.val (.int c0), .unset] []))
      refine own_by (fun _ zz => XS.bipush X0.here hx rfl (hb hby own_d2_31) zz) ?_
      show own_Goes p e below _ (T0.setTop (mkF m 33 #[.val (.int c0), .unset] [(.int (31 : Int32))]))
      refine own_by (fun _ zz => XS.iloadN X0.here hx rfl (hb hby own_d2_33) rfl zz) ?_
      show own_Goes p e below _ (T0.setTop (mkF m 34 #[.val (.int c0), .unset] [(.int c0), (.int (31 : Int32))]))
      refine own_by (fun _ zz => XS.sipush X0.here hx rfl (hb hby own_d2_34) zz) ?_
      show own_Goes p e below _ (T0.setTop (mkF m 37 #[.val (.int c0), .unset] [(.int (512 : Int32)), (.int c0), (.int (31 : Int32))]))
      refine own_by (fun _ zz => XS.isub X0.here hx rfl (hb hby own_d2_37) rfl zz) ?_
      show own_Goes p e below _ (T0.setTop (mkF m 38 #[.val (.int c0), .unset] [(.int (c0 - (512 : Int32))), (.int (31 : Int32))]))
      refine own_by (fun _ zz => XS.sipush X0.here hx rfl (hb hby own_d2_38) zz) ?_
      show own_Goes p e below _ (T0.setTop (mkF m 41 #[.val (.int c0), .unset] [(.int (128 : Int32)), (.int (c0 - (512 : Int32))), (.int (31 : Int32))]))
      refine own_callS0 X0 hx hZ (W := 1) (argsL := [(.int (c0 - (512 : Int32))), (.int (128 : Int32))]) (rest := [(.int (31 : Int32))]) hown (own_w13 hw) (own_w14 hw) (own_w11 hw) (own_w15 hw) (by decide) e0 (rm_ceilDiv l hw W (c0 - (512 : Int32)) (128 : Int32) (by decide)) (by decide) (by decide) (by decide) (by decide) (by rw [hml]; rfl) (lenOf own_pd0 rfl) rfl (Nat.le_of_ble_eq_true rfl) (hb hby own_d2_41) fun T6 X6 e6 => ?_
      show own_Goes p e below _ (T6.setTop (mkF m 44 #[.val (.int c0), .unset] [(.int (own_r_ceilDiv A (c0 - (512 : Int32)) (128 : Int32))), (.int (31 : Int32))]))
      refine own_by (fun _ zz => XS.iadd X6.here hx rfl (hb hby own_d2_44) rfl zz) ?_
      show own_Goes p e below _ (T6.setTop (mkF m 45 #[.val (.int c0), .unset] [(.int ((31 : Int32) + (own_r_ceilDiv A (c0 - (512 : Int32)) (128 : Int32))))]))
      refine own_retI X6 hx hlk hret (hb hby own_d2_45) (by decide) (by decide) ?_
      exact ⟨by unfold own_r_expected; rw [if_pos q1, if_neg q2] <;> rfl, rfl, e6⟩
  · refine own_by (fun _ zz => XS.icmpNo X0.here hx rfl (hb hby own_d2_4) rfl (XT.ii_gt_f q1) zz) ?_
    show own_Goes p e below _ (T0.setTop (mkF m 7 #[.val (.int c0), .unset] []))
    refine own_by (fun _ zz => XS.iloadN X0.here hx rfl (hb hby own_d2_7) rfl zz) ?_
    show own_Goes p e below _ (T0.setTop (mkF m 8 #[.val (.int c0), .unset] [(.int c0)]))
    refine own_by (fun _ zz => XS.bipush X0.here hx rfl (hb hby own_d2_8) zz) ?_
    show own_Goes p e below _ (T0.setTop (mkF m 10 #[.val (.int c0), .unset] [(.int (16 : Int32)), (.int c0)]))
    refine own_callS0 X0 hx hZ (W := 0) (argsL := [(.int c0), (.int (16 : Int32))]) (rest := []) hown (own_w13 hw) (own_w14 hw) (own_w11 hw) (own_w15 hw) (by decide) e0 (rm_ceilDiv l hw W c0 (16 : Int32) (by decide)) (by decide) (by decide) (by decide) (by decide) (by rw [hml]; rfl) (lenOf own_pd0 rfl) rfl (Nat.le_of_ble_eq_true rfl) (hb hby own_d2_10) fun T7 X7 e7 => ?_
    show own_Goes p e below _ (T7.setTop (mkF m 13 #[.val (.int c0), .unset] [(.int (own_r_ceilDiv A c0 (16 : Int32)))]))
    refine own_by (fun _ zz => XS.istoreN X7.here hx rfl (hb hby own_d2_13) rfl (l' := #[.val (.int c0), .val (.int (own_r_ceilDiv A c0 (16 : Int32)))]) rfl zz) ?_
    show own_Goes p e below _ (T7.setTop (mkF m 14 #[.val (.int c0), .val (.int (own_r_ceilDiv A c0 (16 : Int32)))] []))
    refine own_by (fun _ zz => XS.iloadN X7.here hx rfl (hb hby own_d2_14) rfl zz) ?_
    show own_Goes p e below _ (T7.setTop (mkF m 15 #[.val (.int c0), .val (.int (own_r_ceilDiv A c0 (16 : Int32)))] [(.int (own_r_ceilDiv A c0 (16 : Int32)))]))
    by_cases q8 : (own_r_ceilDiv A c0 (16 : Int32)) = 0
    · refine own_by (fun _ zz => XS.ifNo X7.here hx rfl (hb hby own_d2_15) rfl (XT.i0_ne_f q8) zz) ?_
      show own_Goes p e below _ (T7.setTop (mkF m 18 #[.val (.int c0), .val (.int (own_r_ceilDiv A c0 (16 : Int32)))] []))
      refine own_by (fun _ zz => XS.iconst X7.here hx rfl (hb hby own_d2_18) zz) ?_
      show own_Goes p e below _ (T7.setTop (mkF m 19 #[.val (.int c0), .val (.int (own_r_ceilDiv A c0 (16 : Int32)))] [(.int (0 : Int32))]))
      refine own_retI X7 hx hlk hret (hb hby own_d2_19) (by decide) (by decide) ?_
      exact ⟨by unfold own_r_expected; rw [if_neg q1, if_pos q8] <;> rfl, rfl, e7⟩
    · refine own_by (fun _ zz => XS.ifYes X7.here hx rfl (pc0 := 15) (pc' := 20) rfl (hb hby own_d2_15) rfl (XT.i0_ne_t q8) (by decide) (by decide) zz) ?_
      show own_Goes p e below _ (T7.setTop (mkF m 20 #[.val (.int c0), .val (.int (own_r_ceilDiv A c0 (16 : Int32)))] []))
      refine own_by (fun _ zz => XS.iloadN X7.here hx rfl (hb hby own_d2_20) rfl zz) ?_
      show own_Goes p e below _ (T7.setTop (mkF m 21 #[.val (.int c0), .val (.int (own_r_ceilDiv A c0 (16 : Int32)))] [(.int (own_r_ceilDiv A c0 (16 : Int32)))]))
      refine own_by (fun _ zz => XS.iconst X7.here hx rfl (hb hby own_d2_21) zz) ?_
      show own_Goes p e below _ (T7.setTop (mkF m 22 #[.val (.int c0), .val (.int (own_r_ceilDiv A c0 (16 : Int32)))] [(.int (1 : Int32)), (.int (own_r_ceilDiv A c0 (16 : Int32)))]))
      refine own_by (fun _ zz => XS.isub X7.here hx rfl (hb hby own_d2_22) rfl zz) ?_
      show own_Goes p e below _ (T7.setTop (mkF m 23 #[.val (.int c0), .val (.int (own_r_ceilDiv A c0 (16 : Int32)))] [(.int ((own_r_ceilDiv A c0 (16 : Int32)) - (1 : Int32)))]))
      refine own_retI X7 hx hlk hret (hb hby own_d2_23) (by decide) (by decide) ?_
      exact ⟨by unfold own_r_expected; rw [if_neg q1, if_neg q8] <;> rfl, rfl, e7⟩
theorem own_tabR (i : Nat) (hI : i.toInt32.toInt = i) : (0 ≤ i ∧ i < 1 ∧ (own_tab i).toInt = 0) ∨ (1 ≤ i ∧ i < 34 ∧ (own_tab i).toInt = (i : Int) - 1) ∨ (34 ≤ i ∧ i < 41 ∧ (own_tab i).toInt = 32) ∨ (41 ≤ i ∧ i < 49 ∧ (own_tab i).toInt = 33) ∨ (49 ≤ i ∧ i < 57 ∧ (own_tab i).toInt = 34) ∨ (57 ≤ i ∧ i < 65 ∧ (own_tab i).toInt = 35) ∨ (65 ≤ i ∧ i < 81 ∧ (own_tab i).toInt = 36) ∨ (81 ≤ i ∧ i < 97 ∧ (own_tab i).toInt = 37) ∨ (97 ≤ i ∧ i < 113 ∧ (own_tab i).toInt = 38) ∨ (113 ≤ i ∧ i < 129 ∧ (own_tab i).toInt = 39) ∨ (129 ≤ i ∧ i < 161 ∧ (own_tab i).toInt = 40) ∨ (161 ≤ i ∧ i < 193 ∧ (own_tab i).toInt = 41) ∨ (193 ≤ i ∧ i < 225 ∧ (own_tab i).toInt = 42) ∨ (225 ≤ i ∧ (own_tab i).toInt = 43) := by
  unfold own_tab
  by_cases c0 : i < 1
  · rw [if_pos c0]; exact Or.inl ⟨by omega, c0, by decide⟩
  rw [if_neg c0]
  by_cases c1 : i < 34
  · rw [if_pos c1]
    have z1 : (1 : Int32).toInt = 1 := by decide
    exact Or.inr (Or.inl ⟨by omega, c1, by rw [Jvm.Kit.i32_sub (by omega) (by omega), hI, z1]⟩)
  rw [if_neg c1]
  by_cases c2 : i < 41
  · rw [if_pos c2]; exact Or.inr (Or.inr (Or.inl ⟨by omega, c2, by decide⟩))
  rw [if_neg c2]
  by_cases c3 : i < 49
  · rw [if_pos c3]; exact Or.inr (Or.inr (Or.inr (Or.inl ⟨by omega, c3, by decide⟩)))
  rw [if_neg c3]
  by_cases c4 : i < 57
  · rw [if_pos c4]; exact Or.inr (Or.inr (Or.inr (Or.inr (Or.inl ⟨by omega, c4, by decide⟩))))
  rw [if_neg c4]
  by_cases c5 : i < 65
  · rw [if_pos c5]; exact Or.inr (Or.inr (Or.inr (Or.inr (Or.inr (Or.inl ⟨by omega, c5, by decide⟩)))))
  rw [if_neg c5]
  by_cases c6 : i < 81
  · rw [if_pos c6]; exact Or.inr (Or.inr (Or.inr (Or.inr (Or.inr (Or.inr (Or.inl ⟨by omega, c6, by decide⟩))))))
  rw [if_neg c6]
  by_cases c7 : i < 97
  · rw [if_pos c7]; exact Or.inr (Or.inr (Or.inr (Or.inr (Or.inr (Or.inr (Or.inr (Or.inl ⟨by omega, c7, by decide⟩)))))))
  rw [if_neg c7]
  by_cases c8 : i < 113
  · rw [if_pos c8]; exact Or.inr (Or.inr (Or.inr (Or.inr (Or.inr (Or.inr (Or.inr (Or.inr (Or.inl ⟨by omega, c8, by decide⟩))))))))
  rw [if_neg c8]
  by_cases c9 : i < 129
  · rw [if_pos c9]; exact Or.inr (Or.inr (Or.inr (Or.inr (Or.inr (Or.inr (Or.inr (Or.inr (Or.inr (Or.inl ⟨by omega, c9, by decide⟩)))))))))
  rw [if_neg c9]
  by_cases c10 : i < 161
  · rw [if_pos c10]; exact Or.inr (Or.inr (Or.inr (Or.inr (Or.inr (Or.inr (Or.inr (Or.inr (Or.inr (Or.inr (Or.inl ⟨by omega, c10, by decide⟩))))))))))
  rw [if_neg c10]
  by_cases c11 : i < 193
  · rw [if_pos c11]; exact Or.inr (Or.inr (Or.inr (Or.inr (Or.inr (Or.inr (Or.inr (Or.inr (Or.inr (Or.inr (Or.inr (Or.inl ⟨by omega, c11, by decide⟩)))))))))))
  rw [if_neg c11]
  by_cases c12 : i < 225
  · rw [if_pos c12]; exact Or.inr (Or.inr (Or.inr (Or.inr (Or.inr (Or.inr (Or.inr (Or.inr (Or.inr (Or.inr (Or.inr (Or.inr (Or.inl ⟨by omega, c12, by decide⟩))))))))))))
  rw [if_neg c12]
  exact Or.inr (Or.inr (Or.inr (Or.inr (Or.inr (Or.inr (Or.inr (Or.inr (Or.inr (Or.inr (Or.inr (Or.inr (Or.inr (⟨by omega, by decide⟩)))))))))))))
theorem own_ceil (A : Nat → Addr) {x y : Int32} (h1 : 0 ≤ x.toInt ∧ x.toInt < 5000) (h2 : 0 < y.toInt ∧ y.toInt < 5000) : (own_r_ceilDiv A x y).toInt = (x.toInt + y.toInt - 1) / y.toInt := by
  unfold own_r_ceilDiv
  have z2 : (1 : Int32).toInt = 1 := by decide
  have q1 : (x + y).toInt = x.toInt + y.toInt := Jvm.Kit.i32_add (by omega) (by omega)
  have q2 : (x + y - 1).toInt = x.toInt + y.toInt - 1 := by rw [Jvm.Kit.i32_sub (by omega) (by omega), q1, z2]
  rw [Jvm.Kit.i32_div (by omega), q2, Int.tdiv_eq_ediv_of_nonneg (by omega)]
theorem own_law (A : Nat → Addr) {c0 : Int32} {i : Nat} (h0 : 0 ≤ c0.toInt ∧ c0.toInt < 4097) (hi : (c0.toInt + 15) / 16 = i) : own_tab i = own_r_expected A c0 := by
  have z0 : (0 : Int32).toInt = 0 := by decide
  have z1 : (1 : Int32).toInt = 1 := by decide
  have y16 : (16 : Int32).toInt = 16 := by decide
  have y128 : (128 : Int32).toInt = 128 := by decide
  have y256 : (256 : Int32).toInt = 256 := by decide
  have y512 : (512 : Int32).toInt = 512 := by decide
  have y1024 : (1024 : Int32).toInt = 1024 := by decide
  have y2048 : (2048 : Int32).toInt = 2048 := by decide
  have y31 : (31 : Int32).toInt = 31 := by decide
  have y35 : (35 : Int32).toInt = 35 := by decide
  have y39 : (39 : Int32).toInt = 39 := by decide
  have hI : i.toInt32.toInt = i := len_toInt (by omega)
  have T := own_tabR i hI
  generalize own_tab i = tt at T ⊢
  apply own_eqInt
  unfold own_r_expected
  by_cases c1 : (512 : Int32) < c0
  · rw [if_pos c1]
    rw [Int32.lt_iff_toInt_lt, y512] at c1
    by_cases c2 : (1024 : Int32) < c0
    · rw [if_pos c2]
      rw [Int32.lt_iff_toInt_lt, y1024] at c2
      by_cases c3 : (2048 : Int32) < c0
      · rw [if_pos c3]
        rw [Int32.lt_iff_toInt_lt, y2048] at c3
        have s1 : (c0 - (2048 : Int32)).toInt = c0.toInt - 2048 := by rw [Jvm.Kit.i32_sub (by omega) (by omega), y2048]
        have s2 := own_ceil A (x := c0 - (2048 : Int32)) (y := 512) (by omega) (by omega)
        rw [s1, y512] at s2
        rw [Jvm.Kit.i32_add (by omega) (by omega), s2, y39]
        omega
      · rw [if_neg c3]
        rw [Int32.lt_iff_toInt_lt, y2048] at c3
        have s1 : (c0 - (1024 : Int32)).toInt = c0.toInt - 1024 := by rw [Jvm.Kit.i32_sub (by omega) (by omega), y1024]
        have s2 := own_ceil A (x := c0 - (1024 : Int32)) (y := 256) (by omega) (by omega)
        rw [s1, y256] at s2
        rw [Jvm.Kit.i32_add (by omega) (by omega), s2, y35]
        omega
    · rw [if_neg c2]
      rw [Int32.lt_iff_toInt_lt, y1024] at c2
      have s1 : (c0 - (512 : Int32)).toInt = c0.toInt - 512 := by rw [Jvm.Kit.i32_sub (by omega) (by omega), y512]
      have s2 := own_ceil A (x := c0 - (512 : Int32)) (y := 128) (by omega) (by omega)
      rw [s1, y128] at s2
      rw [Jvm.Kit.i32_add (by omega) (by omega), s2, y31]
      omega
  · rw [if_neg c1]
    rw [Int32.lt_iff_toInt_lt, y512] at c1
    have s2 := own_ceil A (x := c0) (y := 16) (by omega) (by omega)
    rw [y16] at s2
    by_cases c4 : own_r_ceilDiv A c0 (16 : Int32) = 0
    · rw [if_pos c4]
      rw [← Int32.toInt_inj, z0] at c4
      rw [z0]; omega
    · rw [if_neg c4]
      rw [← Int32.toInt_inj, z0] at c4
      rw [Jvm.Kit.i32_sub (by omega) (by omega), s2, z1]
      omega
def own_Q (h0 : Heap) (v : Option Value) (h : Heap) (L : List Loc) : Prop := v = some (.int 1) ∧ L = []
set_option maxRecDepth 65536 in
set_option maxHeartbeats 40000000 in
theorem rm_law (l : Launch) {Z : State} {a0 : Array Value} (hw : ∀ d ∈ tables_1, d.before a0 Z = true) (ws : List Jvm.Cond) {A : Nat → Addr} {h0 : Heap} (W : own_W Z h0 A) (p0 : Int32) :
    own_Does l Z x code maxLocals ret ws room_1 #[(.int p0)] h0 (own_Q h0) := by
  refine own_body own_pn1 ?_
  intro p e s m below meth c T0 hx hby hml hret hlk hnm hown hZ X0 e0
  have KK := own_mod p0 4097 4097 (by decide) (by decide)
  have hix := own_ix KK
  obtain ⟨i, hi, hq⟩ : ∃ i : Nat, i < 257 ∧ (((p0 &&& (2147483647 : Int32)) % (4097 : Int32)).toInt + 15) / 16 = i := ⟨((((p0 &&& (2147483647 : Int32)) % (4097 : Int32)).toInt + 15) / 16).toNat, by omega, by omega⟩
  have hj : (XT.ushr ((((p0 &&& (2147483647 : Int32)) % (4097 : Int32)) + (16 : Int32)) - (1 : Int32)) (4 : Int32)).toInt = i := by rw [hix, hq]
  refine own_tr (XT.entry (Ls := #[.val (.int p0), .unset]) rfl) ?_
  show own_Goes p e below _ (T0.setTop (mkF m 0 #[.val (.int p0), .unset] []))
  refine own_by (fun _ zz => XS.iloadN X0.here hx rfl (hb hby at_0) rfl zz) ?_
  show own_Goes p e below _ (T0.setTop (mkF m 1 #[.val (.int p0), .unset] [(.int p0)]))
  refine own_by (fun _ zz => X0.ldcI hx hown (mvT hZ (own_w0 hw)) rfl (hb hby at_1) zz) ?_
  show own_Goes p e below _ (T0.setTop (mkF m 3 #[.val (.int p0), .unset] [(.int (2147483647 : Int32)), (.int p0)]))
  refine own_by (fun _ zz => XS.iand X0.here hx rfl (hb hby at_3) rfl zz) ?_
  show own_Goes p e below _ (T0.setTop (mkF m 4 #[.val (.int p0), .unset] [(.int (p0 &&& (2147483647 : Int32)))]))
  refine own_by (fun _ zz => XS.sipush X0.here hx rfl (hb hby at_4) zz) ?_
  show own_Goes p e below _ (T0.setTop (mkF m 7 #[.val (.int p0), .unset] [(.int (4097 : Int32)), (.int (p0 &&& (2147483647 : Int32)))]))
  refine own_by (fun _ zz => iremM X0 hx rfl (hb hby at_7) rfl (by decide) zz) ?_
  show own_Goes p e below _ (T0.setTop (mkF m 8 #[.val (.int p0), .unset] [(.int ((p0 &&& (2147483647 : Int32)) % (4097 : Int32)))]))
  refine own_by (fun _ zz => XS.istoreN X0.here hx rfl (hb hby at_8) rfl (l' := #[.val (.int p0), .val (.int ((p0 &&& (2147483647 : Int32)) % (4097 : Int32)))]) rfl zz) ?_
  show own_Goes p e below _ (T0.setTop (mkF m 9 #[.val (.int p0), .val (.int ((p0 &&& (2147483647 : Int32)) % (4097 : Int32)))] []))
  refine own_by (fun _ zz => XS.iloadN X0.here hx rfl (hb hby at_9) rfl zz) ?_
  show own_Goes p e below _ (T0.setTop (mkF m 10 #[.val (.int p0), .val (.int ((p0 &&& (2147483647 : Int32)) % (4097 : Int32)))] [(.int ((p0 &&& (2147483647 : Int32)) % (4097 : Int32)))]))
  refine own_callS0 X0 hx hZ (W := 0) (argsL := [(.int ((p0 &&& (2147483647 : Int32)) % (4097 : Int32)))]) (rest := []) hown (own_w1 hw) (own_w2 hw) (own_w3 hw) (own_w4 hw) (by decide) e0 (rm_of l hw W ((p0 &&& (2147483647 : Int32)) % (4097 : Int32)) i hj hi) (by decide) (by decide) (by decide) (by decide) (by rw [hml]; rfl) (lenOf own_pd1 rfl) rfl (Nat.le_of_ble_eq_true rfl) (hb hby at_10) fun T1 X1 e1 => ?_
  show own_Goes p e below _ (T1.setTop (mkF m 13 #[.val (.int p0), .val (.int ((p0 &&& (2147483647 : Int32)) % (4097 : Int32)))] [(.int (own_tab i))]))
  refine own_by (fun _ zz => XS.iloadN X1.here hx rfl (hb hby at_13) rfl zz) ?_
  show own_Goes p e below _ (T1.setTop (mkF m 14 #[.val (.int p0), .val (.int ((p0 &&& (2147483647 : Int32)) % (4097 : Int32)))] [(.int ((p0 &&& (2147483647 : Int32)) % (4097 : Int32))), (.int (own_tab i))]))
  refine own_callS0 X1 hx hZ (W := 1) (argsL := [(.int ((p0 &&& (2147483647 : Int32)) % (4097 : Int32)))]) (rest := [(.int (own_tab i))]) hown (own_w9 hw) (own_w10 hw) (own_w11 hw) (own_w12 hw) (by decide) e1 (rm_expected l hw W ((p0 &&& (2147483647 : Int32)) % (4097 : Int32))) (by decide) (by decide) (by decide) (by decide) (by rw [hml]; rfl) (lenOf own_pd1 rfl) rfl (Nat.le_of_ble_eq_true rfl) (hb hby at_14) fun T2 X2 e2 => ?_
  show own_Goes p e below _ (T2.setTop (mkF m 17 #[.val (.int p0), .val (.int ((p0 &&& (2147483647 : Int32)) % (4097 : Int32)))] [(.int (own_r_expected A ((p0 &&& (2147483647 : Int32)) % (4097 : Int32)))), (.int (own_tab i))]))
  refine own_by (fun _ zz => XS.icmpNo X2.here hx rfl (hb hby at_17) rfl (XT.ii_ne_f (own_law A KK hq)) zz) ?_
  show own_Goes p e below _ (T2.setTop (mkF m 20 #[.val (.int p0), .val (.int ((p0 &&& (2147483647 : Int32)) % (4097 : Int32)))] []))
  refine own_by (fun _ zz => XS.iconst X2.here hx rfl (hb hby at_20) zz) ?_
  show own_Goes p e below _ (T2.setTop (mkF m 21 #[.val (.int p0), .val (.int ((p0 &&& (2147483647 : Int32)) % (4097 : Int32)))] [(.int (1 : Int32))]))
  refine own_by (fun _ zz => XS.goto X2.here hx rfl (pc0 := 21) (pc' := 25) rfl (hb hby at_21) (by decide) (by decide) zz) ?_
  show own_Goes p e below _ (T2.setTop (mkF m 25 #[.val (.int p0), .val (.int ((p0 &&& (2147483647 : Int32)) % (4097 : Int32)))] [(.int (1 : Int32))]))
  refine own_retN X2 hx hlk (ty := .boolean) hret (by simp) (hb hby at_25) (by decide) (by decide) ?_
  exact ⟨rfl, rfl⟩
set_option maxRecDepth 65536 in
set_option maxHeartbeats 40000000 in
theorem comes_1 {Post : Tables → Env → Array Value → State → Outcome → State → Prop} (hpost : ∀ tb e args s v u, (limb_1_1.after args s (.returned v) u = true ∧ limb_1_2.after args s (.returned v) u = true ∧ True) → FrameEnd s (.returned v) u (Jvm.fieldLocs frame_1_writes args s ++ Jvm.arrayLocs frame_1_arrays args s ++ Jvm.staticLocs frame_1_statics s) 0 0 → Post tb e args s (.returned v) u) :
    ArmFor flags0 classFile x code maxLocals ret World_1 tables_1 room_1 Calls_1 rest_1 Pre_1 Post := by
  intro l hfl _ _ p e ha hc hk s m args below hf hA hF happ hP
  obtain ⟨hcalls, hrest, hpre⟩ := hP
  obtain ⟨-, -, -, hnamed, -, -, -, hat⟩ := (Spec.applies_iff hf).mp happ
  obtain ⟨hg, hn⟩ := and_e (Cond.before_iff.mp (show (Jvm.Cond.and given_1 narrow_1).before args s = true from hpre))
  obtain ⟨g0, hg0⟩ := and_e hg
  obtain ⟨w0, rfl⟩ : ∃ w0 : Value, args = #[w0] := by
    have hs : args.size = 1 := by simpa [Cond.value, given_1] using g0
    obtain ⟨L⟩ := args
    match L, hs with
    | [w0], _ => exact ⟨w0, rfl⟩
  have hw := fun d (hd : d ∈ tables_1) => atoms_spec (ws := Jvm.Cond.code x code maxLocals ret :: tables_1) hat d (List.mem_cons_of_mem _ hd)
  obtain ⟨j0, y0⟩ := is_v hg0
  obtain rfl : w0 = (.int j0) := Option.some.inj y0
  obtain ⟨A, W⟩ := own_world hw hn
  obtain ⟨n, o, h1, h2, h3, _, L, rfl, ⟨rfl, rfl⟩, hq⟩ := rm_law l hw tables_1 W j0 p e ha hc hk s m _ below hf ((Spec.applies_iff_loose hf).mp happ).1 ⟨rfl, State.Warmed39.refl s, rfl⟩ trivial
  refine ⟨n, _, h1, h2, h3, hpost _ _ _ _ _ _ ⟨Cond.after_iff.mpr rfl, Cond.after_iff.mpr (eq_i res_at (Term.int_eval (1)) rfl), trivial⟩ ⟨hq.1, hq.2.1, (hq.2.2.sift fun y hy => nomatch hy).mono (by decide) (by decide)⟩⟩
theorem main_1_1 : Claimed_1_1 := comes_1 fun _ _ _ _ _ _ h hF => ⟨h.1, hF⟩
theorem main_1_2 : Claimed_1_2 := comes_1 fun _ _ _ _ _ _ h hF => ⟨h.2.1, hF⟩
end Jvm.Pilot.@@N@@
namespace Jvm.Pilot.@@N@@
open Jvm Jvm.ClassFile Sem Op Lib Jvm.Free Jvm.Stand Jvm.Pilot.@@N@@.Jvm.D
/-! MADE BY PROGRAM (witnessworld.py) out of the Statement's table words and the real class files: 9 classes; the members and pool entries that the words name. The judged class is class 1, her method 1. -/
namespace start1
open Jvm.ClassFile
def u (s : String) : CpInfo := .utf8 (stringToUtf16 s)
/-- a pool by its gaps: so many unusable entries, then the entry; so many at the end -/
def gap : Nat → List CpInfo → List CpInfo
  | 0, r => r
  | n + 1, r => .unusable :: gap n r
def poolList (es : List (Nat × CpInfo)) (last : Nat) : List CpInfo := es.foldr (fun e r => gap e.1 (e.2 :: r)) (gap last [])
def pool (es : List (Nat × CpInfo)) (last : Nat) : Array CpInfo := ⟨poolList es last⟩
def fileOf (pool : Array CpInfo) (this : Nat) (attrs : Array Attribute := #[]) (ms : Array MethodInfo := #[]) (fl : Nat := 33) (sup : Nat := 0) (ifs : Array Nat := #[]) (fds : Array FieldInfo := #[]) : ClassFile where
  minorVersion := 0
  majorVersion := 65
  constantPool := pool
  accessFlags := fl
  thisClass := this
  superClass := sup
  interfaces := ifs
  fields := fds
  methods := ms
  attributes := attrs
def plain (name : String) (sup : Option ClassId) : Class where
  name := name
  kind := .ordinary
  loader := none
  accessFlags := 33
  super := sup
  interfaces := #[]
  cf := none
  fields := #[]
  methods := #[]
  instanceTypes := #[]
  staticTypes := #[]
  resolved := #[]
  callSites := []
  init := .initialized
  statics := none
  mirror := none

def pool0 : Array CpInfo := pool [(5, u "<init>"), (0, u "()V"), (1, .class_ 10), (1, u "java/lang/Object")] 113

def k0m0 : Method := { name := "<init>", desc := "()V", sig := { parameters := [], returnType := none }, accessFlags := 1, code := none }
/-- java/lang/Object -/
def k0 : Class := { plain "java/lang/Object" none with
  accessFlags := 33
  interfaces := #[]
  cf := some (fileOf pool0 8 #[] #[{ accessFlags := 1, nameIndex := 5, descriptorIndex := 6, attributes := #[] }] 33 0 #[] #[])
  fields := #[]
  methods := #[k0m0]
  instanceTypes := #[]
  staticTypes := #[]
  resolved := Array.replicate 124 none
  statics := none }

def pool1 : Array CpInfo := pool [(2, .class_ 4), (1, u "java/lang/Object"), (0, u "<init>"), (0, u "()V"), (0, .integer 2147483647), (0, .methodref 9 10), (0, .class_ 11), (0, .nameAndType 12 13), (0, u "com/example/quoin/quoin/internal/SizeClasses"), (0, u "of"), (0, u "(I)I"), (0, .methodref 15 16), (0, .class_ 17), (0, .nameAndType 18 13), (0, u "com/example/quoin/quoin/internal/SizeClassesOfPinLaw"), (0, u "expected"), (0, .methodref 15 20), (0, .nameAndType 21 22), (0, u "ceilDiv"), (0, u "(II)I"), (2, u "law"), (0, u "(I)Z")] 3

def k1m0 : Method := { name := "<init>", desc := "()V", sig := { parameters := [], returnType := none }, accessFlags := 2, code := none }
def k1c1 : Code := { maxStack := 2, maxLocals := 2, code := code, exceptionTable := #[], attributes := #[] }
def k1m1 : Method := { name := "law", desc := "(I)Z", sig := { parameters := [.int], returnType := some .boolean }, accessFlags := 9, code := some k1c1 }
def k1c2 : Code := { maxStack := 2, maxLocals := 2, code := method_3_code, exceptionTable := #[], attributes := #[] }
def k1m2 : Method := { name := "ceilDiv", desc := "(II)I", sig := { parameters := [.int, .int], returnType := some .int }, accessFlags := 10, code := some k1c2 }
def k1c3 : Code := { maxStack := 3, maxLocals := 2, code := method_4_code, exceptionTable := #[], attributes := #[] }
def k1m3 : Method := { name := "expected", desc := "(I)I", sig := { parameters := [.int], returnType := some .int }, accessFlags := 10, code := some k1c3 }
/-- com/example/quoin/quoin/internal/SizeClassesOfPinLaw -/
def k1 : Class := { plain "com/example/quoin/quoin/internal/SizeClassesOfPinLaw" (some 0) with
  accessFlags := 49
  interfaces := #[]
  cf := some (fileOf pool1 15 #[] #[{ accessFlags := 2, nameIndex := 5, descriptorIndex := 6, attributes := #[] }, { accessFlags := 9, nameIndex := 25, descriptorIndex := 26, attributes := #[] }, { accessFlags := 10, nameIndex := 21, descriptorIndex := 22, attributes := #[] }, { accessFlags := 10, nameIndex := 18, descriptorIndex := 13, attributes := #[] }] 49 2 #[] #[])
  fields := #[]
  methods := #[k1m0, k1m1, k1m2, k1m3]
  instanceTypes := #[]
  staticTypes := #[]
  resolved := Array.replicate 30 none
  statics := none }

def pool2 : Array CpInfo := pool [(2, .class_ 4), (1, u "java/lang/Object"), (0, u "<init>"), (0, u "()V"), (0, .fieldref 8 9), (0, .class_ 10), (0, .nameAndType 11 12), (0, u "com/example/quoin/quoin/internal/SizeClasses"), (0, u "CLASS_BY_QUANTA"), (0, u "[B"), (0, .fieldref 8 14), (0, .nameAndType 15 16), (0, u "QUANTUM_SHIFT"), (0, u "I"), (2, u "SIZES"), (0, u "[I"), (8, u "COUNT"), (9, u "(I)I"), (17, u "MAX_ELEMENT_SIZE"), (2, u "QUANTUM"), (1, u "LAST_QUANTUM_SIZE"), (1, u "SIZES_PER_DOUBLING"), (1, u "MAX_RUN_PAGES"), (0, u "MAX_TAIL_SHARE"), (2, u "of")] 9

def k2m0 : Method := { name := "<init>", desc := "()V", sig := { parameters := [], returnType := none }, accessFlags := 2, code := none }
def k2c1 : Code := { maxStack := 3, maxLocals := 1, code := prog_6_method_2_code, exceptionTable := #[], attributes := #[] }
def k2m1 : Method := { name := "of", desc := "(I)I", sig := { parameters := [.int], returnType := some .int }, accessFlags := 8, code := some k2c1 }
/-- com/example/quoin/quoin/internal/SizeClasses -/
def k2 : Class := { plain "com/example/quoin/quoin/internal/SizeClasses" (some 0) with
  accessFlags := 48
  interfaces := #[]
  cf := some (fileOf pool2 8 #[] #[{ accessFlags := 2, nameIndex := 5, descriptorIndex := 6, attributes := #[] }, { accessFlags := 8, nameIndex := 70, descriptorIndex := 39, attributes := #[] }] 48 2 #[] #[{ accessFlags := 24, nameIndex := 57, descriptorIndex := 16, attributes := #[] }, { accessFlags := 26, nameIndex := 60, descriptorIndex := 16, attributes := #[] }, { accessFlags := 26, nameIndex := 15, descriptorIndex := 16, attributes := #[] }, { accessFlags := 26, nameIndex := 62, descriptorIndex := 16, attributes := #[] }, { accessFlags := 26, nameIndex := 64, descriptorIndex := 16, attributes := #[] }, { accessFlags := 26, nameIndex := 19, descriptorIndex := 20, attributes := #[] }, { accessFlags := 26, nameIndex := 11, descriptorIndex := 12, attributes := #[] }, { accessFlags := 24, nameIndex := 29, descriptorIndex := 16, attributes := #[] }, { accessFlags := 26, nameIndex := 66, descriptorIndex := 16, attributes := #[] }, { accessFlags := 26, nameIndex := 67, descriptorIndex := 16, attributes := #[] }])
  fields := #[{ name := "MAX_ELEMENT_SIZE", type := .int, accessFlags := 24, slot := 0, constantValue := 0 }, { name := "QUANTUM", type := .int, accessFlags := 26, slot := 1, constantValue := 0 }, { name := "QUANTUM_SHIFT", type := .int, accessFlags := 26, slot := 2, constantValue := 0 }, { name := "LAST_QUANTUM_SIZE", type := .int, accessFlags := 26, slot := 3, constantValue := 0 }, { name := "SIZES_PER_DOUBLING", type := .int, accessFlags := 26, slot := 4, constantValue := 0 }, { name := "SIZES", type := (.array .int), accessFlags := 26, slot := 5, constantValue := 0 }, { name := "CLASS_BY_QUANTA", type := (.array .byte), accessFlags := 26, slot := 6, constantValue := 0 }, { name := "COUNT", type := .int, accessFlags := 24, slot := 7, constantValue := 0 }, { name := "MAX_RUN_PAGES", type := .int, accessFlags := 26, slot := 8, constantValue := 0 }, { name := "MAX_TAIL_SHARE", type := .int, accessFlags := 26, slot := 9, constantValue := 0 }]
  methods := #[k2m0, k2m1]
  instanceTypes := #[]
  staticTypes := #[.int, .int, .int, .int, .int, (.array .int), (.array .byte), .int, .int, .int]
  resolved := Array.replicate 80 none
  statics := some 0 }

def pool3 : Array CpInfo := pool [(1, u "java/lang/Cloneable"), (0, .class_ 1), (0, u "java/lang/Object"), (0, .class_ 3)] 3

/-- java/lang/Cloneable -/
def k3 : Class := { plain "java/lang/Cloneable" (some 0) with
  accessFlags := 1537
  interfaces := #[]
  cf := some (fileOf pool3 2 #[] #[] 1537 4 #[] #[])
  fields := #[]
  methods := #[]
  instanceTypes := #[]
  staticTypes := #[]
  resolved := Array.replicate 8 none
  statics := none }

def pool4 : Array CpInfo := pool [(1, u "java/io/Serializable"), (0, .class_ 1), (0, u "java/lang/Object"), (0, .class_ 3)] 3

/-- java/io/Serializable -/
def k4 : Class := { plain "java/io/Serializable" (some 0) with
  accessFlags := 1537
  interfaces := #[]
  cf := some (fileOf pool4 2 #[] #[] 1537 4 #[] #[])
  fields := #[]
  methods := #[]
  instanceTypes := #[]
  staticTypes := #[]
  resolved := Array.replicate 8 none
  statics := none }

/-- the primitive byte -/
def k5 : Class := { plain "byte" none with kind := .primitive 'B', accessFlags := 0x411 }
/-- [B -/
def k6 : Class := { plain "[B" (some 0) with kind := .array 5 .byte, interfaces := #[3, 4], accessFlags := 1041 }

/-- the primitive int -/
def k7 : Class := { plain "int" none with kind := .primitive 'I', accessFlags := 0x411 }
/-- [I -/
def k8 : Class := { plain "[I" (some 0) with kind := .array 7 .int, interfaces := #[3, 4], accessFlags := 1041 }

def heap : Heap := #[{ cls := 2, slots := #[.int 0, .int 0, .int 4, .int 0, .int 0, .null, .ref 1, .int 0, .int 0, .int 0], vm := .statics 2 },
  { cls := 6, slots := #[.int 0, .int 0, .int 1, .int 2, .int 3, .int 4, .int 5, .int 6, .int 7, .int 8, .int 9, .int 10, .int 11, .int 12, .int 13, .int 14, .int 15, .int 16, .int 17, .int 18, .int 19, .int 20, .int 21, .int 22, .int 23, .int 24, .int 25, .int 26, .int 27, .int 28, .int 29, .int 30, .int 31, .int 32, .int 32, .int 32, .int 32, .int 32, .int 32, .int 32, .int 32, .int 33, .int 33, .int 33, .int 33, .int 33, .int 33, .int 33, .int 33, .int 34, .int 34, .int 34, .int 34, .int 34, .int 34, .int 34, .int 34, .int 35, .int 35, .int 35, .int 35, .int 35, .int 35, .int 35, .int 35, .int 36, .int 36, .int 36, .int 36, .int 36, .int 36, .int 36, .int 36, .int 36, .int 36, .int 36, .int 36, .int 36, .int 36, .int 36, .int 36, .int 37, .int 37, .int 37, .int 37, .int 37, .int 37, .int 37, .int 37, .int 37, .int 37, .int 37, .int 37, .int 37, .int 37, .int 37, .int 37, .int 38, .int 38, .int 38, .int 38, .int 38, .int 38, .int 38, .int 38, .int 38, .int 38, .int 38, .int 38, .int 38, .int 38, .int 38, .int 38, .int 39, .int 39, .int 39, .int 39, .int 39, .int 39, .int 39, .int 39, .int 39, .int 39, .int 39, .int 39, .int 39, .int 39, .int 39, .int 39, .int 40, .int 40, .int 40, .int 40, .int 40, .int 40, .int 40, .int 40, .int 40, .int 40, .int 40, .int 40, .int 40, .int 40, .int 40, .int 40, .int 40, .int 40, .int 40, .int 40, .int 40, .int 40, .int 40, .int 40, .int 40, .int 40, .int 40, .int 40, .int 40, .int 40, .int 40, .int 40, .int 41, .int 41, .int 41, .int 41, .int 41, .int 41, .int 41, .int 41, .int 41, .int 41, .int 41, .int 41, .int 41, .int 41, .int 41, .int 41, .int 41, .int 41, .int 41, .int 41, .int 41, .int 41, .int 41, .int 41, .int 41, .int 41, .int 41, .int 41, .int 41, .int 41, .int 41, .int 41, .int 42, .int 42, .int 42, .int 42, .int 42, .int 42, .int 42, .int 42, .int 42, .int 42, .int 42, .int 42, .int 42, .int 42, .int 42, .int 42, .int 42, .int 42, .int 42, .int 42, .int 42, .int 42, .int 42, .int 42, .int 42, .int 42, .int 42, .int 42, .int 42, .int 42, .int 42, .int 42, .int 43, .int 43, .int 43, .int 43, .int 43, .int 43, .int 43, .int 43, .int 43, .int 43, .int 43, .int 43, .int 43, .int 43, .int 43, .int 43, .int 43, .int 43, .int 43, .int 43, .int 43, .int 43, .int 43, .int 43, .int 43, .int 43, .int 43, .int 43, .int 43, .int 43, .int 43, .int 43], vm := .none }]
def classes : Array Class := #[k0, k1, k2, k3, k4, k5, k6, k7, k8]
def interned : List (Array UInt16 × Addr) := []
def slotsUsed : Nat := 267
def theMethod : MethodId := ⟨1, 1⟩
def args0 : Array Value := #[.int 5]
def aboutOver (below : List Frame) : State where
  vm := { classes := classes, interned := interned.toArray }
  heap := heap
  slotsUsed := slotsUsed
  threads := #[{ frames := .invoking theMethod args0 :: below }]
def below0 : List Frame := [.native { method := ⟨0, 0⟩, args := #[] }]
def about1 : State := aboutOver below0
def p0 : Program := .bare "" "" ""
def e0 : Env := launch0.env 0 0 0
theorem w_frames : about1.frames = Frame.invoking theMethod args0 :: below0 := rfl
set_option maxRecDepth 65536 in
theorem w_args : argsFit about1.vm theMethod args0 = true := by decide +kernel
set_option maxRecDepth 65536 in
theorem w_heap : heapFits about1 = true := by decide +kernel
set_option maxRecDepth 65536 in
theorem w_runnable : about1.curStatus? = some .runnable := by decide +kernel
set_option maxRecDepth 65536 in
theorem w_alone : about1.alone = true := by decide +kernel
set_option maxRecDepth 65536 in
theorem w_named : about1.methodNamed? x = some theMethod := by decide +kernel
set_option maxRecDepth 65536 in
theorem w_hears : about1.hears theMethod below0 = true := by decide +kernel
set_option maxRecDepth 65536 in
theorem w_ripe : about1.ripe theMethod args0 below0 = true := by decide +kernel
theorem w_running : about1.status = .running := rfl
set_option maxRecDepth 65536 in
theorem w_room : about1.hasRoom e0.platform room_1 = true :=
  launch0.hasRoom_least _ room_1 (by decide +kernel) (by decide +kernel) (by decide +kernel) (by decide +kernel) (by decide +kernel) (by decide +kernel)
theorem allAtoms_all (ts : List Jvm.Cond) (a : Array Jvm.Value) (st : Jvm.State) : (allAtoms ts).before a st = ts.all (fun c => c.before a st) := by
  induction ts with
  | nil => rfl
  | cons c t ih =>
    show (Jvm.Cond.and c (allAtoms t)).before a st = _
    rw [Jvm.Cond.before_and, ih, List.all_cons]
def words1 : List Jvm.Cond := Jvm.Cond.code x code maxLocals ret :: tables_1
/-- a 'code' word, met by the world's own term for the bytes: nothing is compared byte by byte -/
theorem code_word {y : MethodName} {bytes : ByteArray} {mx : Nat} {rt : Option FieldType} {a : Array Value} {s : State} {m : MethodId} {meth : Method} {c : Code} (h1 : s.methodNamed? y = some m) (h2 : s.vm.method? m = some meth) (h3 : meth.code = some c) (h4 : c.code = bytes)
    (h5 : (c.maxLocals == mx && c.exceptionTable.isEmpty && decide (c.maxStack ≤ mostOperands) && decide (meth.sig.returnType = rt) && !meth.locks && decide (parseMethodDescriptor y.desc = some meth.sig)) = true) : (Jvm.Cond.code y bytes mx rt).before a s = true := by
  simp only [Bool.and_eq_true, beq_iff_eq, Bool.not_eq_true', decide_eq_true_eq] at h5
  obtain ⟨⟨⟨⟨⟨g1, g2⟩, g3⟩, g4⟩, g5⟩, g6⟩ := h5
  simp [Cond.before, Cond.holds, Cond.value, h1, h2, h3, h4, g1, g2, g3, g4, g5, g6]
def isCode : Jvm.Cond → Bool
  | .code _ _ _ _ => true
  | _ => false
theorem all_split {L : List Jvm.Cond} {P : Jvm.Cond → Bool} (h1 : L.all (fun c => isCode c || P c) = true) (h2 : ∀ c ∈ L.filter isCode, P c = true) : L.all P = true := by
  refine List.all_eq_true.mpr fun c hc => ?_
  have h := List.all_eq_true.mp h1 c hc
  rcases Bool.eq_false_or_eq_true (isCode c) with hi | hi
  · exact h2 c (List.mem_filter.mpr ⟨hc, hi⟩)
  · simpa [hi] using h
set_option maxRecDepth 65536 in
theorem w_c0 : (Jvm.Cond.code x code maxLocals ret).before args0 about1 = true := code_word (m := ⟨1, 1⟩) (meth := k1m1) (c := k1c1) (by decide +kernel) rfl rfl rfl (by decide +kernel)
set_option maxRecDepth 65536 in
theorem w_c1 : (Jvm.Cond.code ({ cls := "com/example/quoin/quoin/internal/SizeClasses", name := "of", desc := "(I)I" } : Jvm.MethodName) prog_6_method_2_code (1 : Nat) (Option.some Jvm.ClassFile.FieldType.int)).before args0 about1 = true := code_word (m := ⟨2, 1⟩) (meth := k2m1) (c := k2c1) (by decide +kernel) rfl rfl rfl (by decide +kernel)
set_option maxRecDepth 65536 in
theorem w_c2 : (Jvm.Cond.code ({ cls := "com/example/quoin/quoin/internal/SizeClassesOfPinLaw", name := "expected", desc := "(I)I" } : Jvm.MethodName) method_4_code (2 : Nat) (Option.some Jvm.ClassFile.FieldType.int)).before args0 about1 = true := code_word (m := ⟨1, 3⟩) (meth := k1m3) (c := k1c3) (by decide +kernel) rfl rfl rfl (by decide +kernel)
set_option maxRecDepth 65536 in
theorem w_c3 : (Jvm.Cond.code ({ cls := "com/example/quoin/quoin/internal/SizeClassesOfPinLaw", name := "ceilDiv", desc := "(II)I" } : Jvm.MethodName) method_3_code (2 : Nat) (Option.some Jvm.ClassFile.FieldType.int)).before args0 about1 = true := code_word (m := ⟨1, 2⟩) (meth := k1m2) (c := k1c2) (by decide +kernel) rfl rfl rfl (by decide +kernel)
def codes1 : List Jvm.Cond := [Jvm.Cond.code x code maxLocals ret, Jvm.Cond.code ({ cls := "com/example/quoin/quoin/internal/SizeClasses", name := "of", desc := "(I)I" } : Jvm.MethodName) prog_6_method_2_code (1 : Nat) (Option.some Jvm.ClassFile.FieldType.int), Jvm.Cond.code ({ cls := "com/example/quoin/quoin/internal/SizeClassesOfPinLaw", name := "expected", desc := "(I)I" } : Jvm.MethodName) method_4_code (2 : Nat) (Option.some Jvm.ClassFile.FieldType.int), Jvm.Cond.code ({ cls := "com/example/quoin/quoin/internal/SizeClassesOfPinLaw", name := "ceilDiv", desc := "(II)I" } : Jvm.MethodName) method_3_code (2 : Nat) (Option.some Jvm.ClassFile.FieldType.int)]
set_option maxRecDepth 65536 in
theorem codes_eq : words1.filter isCode = codes1 := rfl
theorem w_codes : ∀ c ∈ words1.filter isCode, c.before args0 about1 = true := by
  rw [codes_eq]
  intro c hc
  simp only [codes1, List.mem_cons, List.not_mem_nil, or_false] at hc
  rcases hc with rfl | rfl | rfl | rfl
  · exact w_c0
  · exact w_c1
  · exact w_c2
  · exact w_c3
set_option maxRecDepth 65536 in
theorem w_t1 : words1.all (fun c => isCode c || c.before args0 about1) = true := by decide +kernel
theorem w_tables : (allAtoms (Jvm.Cond.code x code maxLocals ret :: tables_1)).before args0 about1 = true := by
  rw [allAtoms_all]
  show words1.all (fun c => c.before args0 about1) = true
  refine all_split ?_ w_codes
  rw [w_t1]
set_option maxRecDepth 65536 in
theorem w_case : (Jvm.Cond.and given_1 narrow_1).before args0 about1 = true := by decide +kernel
theorem w_applies : (headSpec (Jvm.Cond.code x code maxLocals ret :: tables_1) room_1).applies x e0.platform about1 = true :=
  (Spec.applies_iff w_frames).mpr ⟨w_running, w_runnable, w_alone, w_named, w_hears, w_ripe, w_room, w_tables⟩
theorem atStart : AtStart classFile x code maxLocals ret World_1 tables_1 room_1 Calls_1 rest_1 Pre_1 launch0 p0 e0 about1 theMethod args0 below0 :=
  ⟨lists_1, trivial, launch0.admits_env _ _ _, launch0.least_env, fairChoices_fair.cas, fairChoices_fair.clock, w_frames, w_args, w_heap, w_applies, trivial, trivial, w_case⟩
end start1
theorem witness_1 : WitnessClaimed_1 := ⟨start1.p0, start1.e0, start1.about1, start1.theMethod, start1.args0, start1.below0, start1.atStart⟩
end Jvm.Pilot.@@N@@
