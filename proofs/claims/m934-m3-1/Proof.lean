import JvmDerived
import JvmDerived.Pilot.@@N@@Statement
import JvmDerived.Pilot.@@N@@Code
set_option linter.unusedVariables false
set_option linter.unusedSimpArgs false
@@BLOCK:NumsL.lean.txt@@
namespace Jvm.RoadKit
open Sem ClassFile Op Lib Jvm.Stand Jvm.Free Jvm.LawKit
section New
variable {p : Program} {l : Launch} {e : Env} {R : Room} {s : State} {m : MethodId} {args : Array Value} {below : List Frame} {meth : Method} {c : Code} {T : State} {locs : List Loc} {cells slots : Nat}
theorem retI (X : Stand p l e R s m args below meth c T locs cells slots) (hx : p.tables.exec = Jvm.exec) {pc : Nat} {Ls : Array Slot} {z : Int32} {rest : List Value} (hret : meth.sig.returnType = some .int) (hd : decode c.code pc = .ok (.ireturn, 1)) {fs : List Frame}
    (hl : ∀ (f : JFrame) (acts : List Action), f.method = m → f.locked = none → f.entered = [] → (doReturn e (T.setTop f) acts (some (.int z))).1 = T.setFrames fs) : Steps p.tables e below (T.setTop (mkF m pc Ls (.int z :: rest))) (T.setFrames fs) := by
  have hm' : T.vm.method? m = some meth := X.method'
  have hn : narrow .int (.int z) = .int z := rfl
  show Steps p.tables e below (T.setTop { method := m, pc := pc, locals := Ls, stack := _ :: rest, locked := none }) _
  jvm_step X.here [X.here.top, hx, hd, hm', hret, hn]
  first | (intro acts; rw [hl _ acts rfl rfl rfl]) | rw [hl _ _ rfl rfl rfl]
  exact Steps.refl _
end New
end Jvm.RoadKit
namespace Jvm.Pilot.@@N@@
open Jvm Jvm.ClassFile Sem Op Lib Jvm.Free Jvm.Stand Jvm.LawKit Jvm.RoadKit Bundle Jvm.Pilot.@@N@@.Jvm.D
section OwnKit
variable {p : Program} {l : Launch} {e : Env} {R : Room} {s : State} {m : MethodId} {args : Array Value} {below : List Frame} {meth : Method} {c : Code} {T : State} {locs : List Loc} {cells slots : Nat} {Z : State} {a0 : Array Value} {h : Heap} {Q : Option Value → Heap → List Loc → Prop} {C N : Nat} {t t' : State} {P : Outcome → State → Prop}
/-- from the state t the run comes to a return that meets Q -/
def own_Goes (p : Program) (e : Env) (below : List Frame) (P : Outcome → State → Prop) (t : State) : Prop :=
  ∃ s₂ o, Steps p.tables e below t s₂ ∧ s₂.status = .running ∧ Ended s₂ below o ∧ P o s₂
def own_P (s : State) (Q : Option Value → Heap → List Loc → Prop) (C N : Nat) : Outcome → State → Prop := fun o s₂ => ∃ v L, o = .returned v ∧ Q v s₂.heap L ∧ FrameEnd s o s₂ L C N
theorem own_by (st : ∀ target, Steps p.tables e below t' target → Steps p.tables e below t target) (k : own_Goes p e below P t') : own_Goes p e below P t := by
  obtain ⟨s₂, o, h1, h2⟩ := k
  exact ⟨s₂, o, st _ h1, h2⟩
theorem own_tr (st : Steps p.tables e below t t') (k : own_Goes p e below P t') : own_Goes p e below P t := by
  obtain ⟨s₂, o, h1, h2⟩ := k
  exact ⟨s₂, o, st.trans h1, h2⟩
theorem own_retI (X : Stand p l e R s m args below meth c T locs cells slots) (hx : p.tables.exec = Jvm.exec) (hlk : meth.locks = false) {pc : Nat} {Ls : Array Slot} {z : Int32} {rest : List Value} (hret : meth.sig.returnType = some .int) (hd : decode c.code pc = .ok (.ireturn, 1)) (hC : cells ≤ C) (hN : slots ≤ N) (hq : Q (some (.int z)) T.heap locs) : own_Goes p e below (own_P s Q C N) (T.setTop (mkF m pc Ls (.int z :: rest))) := by
  obtain ⟨fs, hr, hrun, hended, hW, hsame⟩ := X.leave (v := some (.int z)) (fun h => by rw [hret] at h; cases h) hlk
  exact ⟨_, _, retI X hx hret hd hr, hrun, hended, _, _, rfl, hq, ⟨_, rfl⟩, hW, hsame.mono hC hN⟩
theorem own_retN (X : Stand p l e R s m args below meth c T locs cells slots) (hx : p.tables.exec = Jvm.exec) (hlk : meth.locks = false) {pc : Nat} {Ls : Array Slot} {z : Int32} {ty : FieldType} {rest : List Value} (hret : meth.sig.returnType = some ty) (ht : ty = .boolean ∨ ty = .byte ∨ ty = .char ∨ ty = .short) (hd : decode c.code pc = .ok (.ireturn, 1)) (hC : cells ≤ C) (hN : slots ≤ N) (hq : Q (some (.int (nar ty z))) T.heap locs) : own_Goes p e below (own_P s Q C N) (T.setTop (mkF m pc Ls (.int z :: rest))) := by
  obtain ⟨fs, hr, hrun, hended, hW, hsame⟩ := X.leave (v := some (.int (nar ty z))) (fun h => by rw [hret] at h; cases h) hlk
  exact ⟨_, _, retN X hx hret ht hd hr, hrun, hended, _, _, rfl, hq, ⟨_, rfl⟩, hW, hsame.mono hC hN⟩
theorem own_retR (X : Stand p l e R s m args below meth c T locs cells slots) (hx : p.tables.exec = Jvm.exec) (hlk : meth.locks = false) {pc : Nat} {Ls : Array Slot} {w : Value} {ty : FieldType} {rest : List Value} (hret : meth.sig.returnType = some ty) (ht : ty.isReference = true) (hw : w.isRef = true) (hn : narrow ty w = w) (hd : decode c.code pc = .ok (.areturn, 1)) (hC : cells ≤ C) (hN : slots ≤ N) (hq : Q (some w) T.heap locs) : own_Goes p e below (own_P s Q C N) (T.setTop (mkF m pc Ls (w :: rest))) := by
  obtain ⟨fs, hr, hrun, hended, hW, hsame⟩ := X.leave (v := some w) (fun h => by rw [hret] at h; cases h) hlk
  exact ⟨_, _, retOut X hx hret hn (Or.inr (Or.inr (Or.inr (Or.inr ⟨rfl, ht, hw⟩)))) hd hr, hrun, hended, _, _, rfl, hq, ⟨_, rfl⟩, hW, hsame.mono hC hN⟩
theorem own_retV (X : Stand p l e R s m args below meth c T locs cells slots) (hx : p.tables.exec = Jvm.exec) (hlk : meth.locks = false) {pc : Nat} {Ls : Array Slot} (hret : meth.sig.returnType = none) (hd : decode c.code pc = .ok (.return_, 1)) (hC : cells ≤ C) (hN : slots ≤ N) (hq : Q none T.heap locs) : own_Goes p e below (own_P s Q C N) (T.setTop (mkF m pc Ls [])) := by
  obtain ⟨fs, hr, hrun, hended, hW, hsame⟩ := X.leave (v := none) (fun _ => rfl) hlk
  exact ⟨_, _, X.returnOut hx hret hd hr, hrun, hended, _, _, rfl, hq, ⟨_, rfl⟩, hW, hsame.mono hC hN⟩
/-- the method y, called with as' on the heap h, returns so that Qc holds -/
def own_Does (l : Launch) (Z : State) (y : MethodName) (bytes : ByteArray) (maxL : Nat) (ret : Option FieldType) (ws : List Jvm.Cond) (rm : Room) (as' : Array Value) (h : Heap) (Qc : Option Value → Heap → List Loc → Prop) : Prop :=
  MetFree l y (head1 (Jvm.Cond.code y bytes maxL ret :: ws) rm) (fun a U => a = as' ∧ Z.Warmed39 U.vm ∧ U.heap = h) (fun _ _ _ _ _ => True) (fun _ U o U' => ∃ v L, o = .returned v ∧ Qc v U'.heap L ∧ FrameEnd U o U' L rm.cells rm.slots)
theorem own_body {y : MethodName} {bytes : ByteArray} {maxL : Nat} {ret : Option FieldType} {ws : List Jvm.Cond} {rm : Room} {as' : Array Value} (hpn : plainName y.cls = true)
    (body : ∀ (p : Program) (e : Env) (s : State) (m : MethodId) (below : List Frame) (meth : Method) (c : Code) (T : State), p.tables.exec = Jvm.exec → c.code = bytes → c.maxLocals = maxL → meth.sig.returnType = ret → meth.locks = false → meth.name = y.name → s.vm.findClass y.cls = some m.cls → Z.Warmed39 s.vm → Stand p l e rm s m as' below meth c T [] 0 0 → T.heap = h → own_Goes p e below (own_P s Q rm.cells rm.slots) (T.setTop (entryFrame m as' maxL))) :
    own_Does l Z y bytes maxL ret ws rm as' h Q := by
  refine MetFree.of_bodySF (plainFor_of_name hpn) hisR ?_
  intro p e s m args below meth c s₁ Bd hml0 hP hK
  obtain ⟨rfl, hZ, hh⟩ := hP
  exact body p e s m below meth c s₁ Bd.exec Bd.bytes hml0 Bd.returns Bd.notSynchronized (name_of_methodNamed Bd.named Bd.method).1 (findClass_of_methodNamed Bd.named) hZ (Stand.of_body Bd) (by rw [← hh, Bd.state]; rfl)
theorem own_bodyP {y : MethodName} {bytes : ByteArray} {maxL : Nat} {ret : Option FieldType} {ws : List Jvm.Cond} {rm : Room} {as' : Array Value} (hpn : plainFor y = true)
    (body : ∀ (p : Program) (e : Env) (s : State) (m : MethodId) (below : List Frame) (meth : Method) (c : Code) (T : State), p.tables.exec = Jvm.exec → c.code = bytes → c.maxLocals = maxL → meth.sig.returnType = ret → meth.locks = false → meth.name = y.name → s.vm.findClass y.cls = some m.cls → Z.Warmed39 s.vm → Stand p l e rm s m as' below meth c T [] 0 0 → T.heap = h → own_Goes p e below (own_P s Q rm.cells rm.slots) (T.setTop (entryFrame m as' maxL))) :
    own_Does l Z y bytes maxL ret ws rm as' h Q := by
  refine MetFree.of_bodySF hpn hisR ?_
  intro p e s m args below meth c s₁ Bd hml0 hP hK
  obtain ⟨rfl, hZ, hh⟩ := hP
  exact body p e s m below meth c s₁ Bd.exec Bd.bytes hml0 Bd.returns Bd.notSynchronized (name_of_methodNamed Bd.named Bd.method).1 (findClass_of_methodNamed Bd.named) hZ (Stand.of_body Bd) (by rw [← hh, Bd.state]; rfl)
/-- it returns w, and nothing has been written -/
def own_Is (w : Value) (h : Heap) : Option Value → Heap → List Loc → Prop := fun v h' L => v = some w ∧ L = [] ∧ h' = h
theorem own_callS (X : Stand p l e R s m args below meth c T locs cells slots) (hx : p.tables.exec = Jvm.exec) (hZ : Z.Warmed39 s.vm) {own : String} {index : Nat} {y : MethodName} {bytes : ByteArray} {maxL : Nat} {ret : Option FieldType} {rm : Room} {argsL rest : List Value} {Qc : Option Value → Heap → List Loc → Prop} {W : Nat}
    (hown : s.vm.findClass own = some m.cls) (w1 : (Cond.methodLink own index y).before a0 Z = true) (w2 : (Cond.static y).before a0 Z = true) (w3 : (Cond.initialized y.cls).before a0 Z = true) (w4 : (Cond.code y bytes maxL ret).before a0 Z = true)
    (hy : y.cls ≠ "java/lang/invoke/MethodHandle" ∧ y.cls ≠ "java/lang/invoke/VarHandle") (eT : T.heap = h) (D : own_Does l Z y bytes maxL ret [] rm argsL.toArray h Qc)
    (hf : rm.frames + 1 ≤ R.frames) (hl : W + (maxL + 11) + rm.locals ≤ R.locals) (hc : cells + rm.cells ≤ R.cells) (hn : slots + rm.slots ≤ R.slots)
    {pc : Nat} {Ls : Array Slot} {S : List Value} (hsize : Ls.size = c.maxLocals) (hlen : ∀ sig, parseMethodDescriptor y.desc = some sig → argsL.length = sig.parameters.length) (hstack : S = argsL.reverse ++ rest) (hW : 2 * 0 + (rest.map fun v => v.category).sum ≤ W) (hd : decode c.code pc = .ok (.invokestatic index, 3))
    (k : ∀ v T' L', Stand p l e R s m args below meth c T' (locs ++ L') (cells + rm.cells) (slots + rm.slots) → Qc v T'.heap L' → own_Goes p e below P (T'.setTop (mkF m (pc + 3) Ls (v.toList ++ rest)))) :
    own_Goes p e below P (T.setTop (mkF m pc Ls S)) := by
  obtain ⟨v, _, ⟨T', L', k', n'⟩, -, X', ⟨Lc, hQ, l', y', z'⟩, st⟩ := Jvm.LawKit.callS X hx hown (mvT hZ w1) (mvT hZ w2) (mvT hZ w3) (mvT hZ w4) hy (backOf (W := W) D hZ w4 w3 hf hl) (g := mkF m pc Ls S) rfl hsize (argsL := argsL) (rest := rest) hlen hstack hW hd (fun _ _ => ⟨rfl, eT, hc, hn⟩)
  dsimp only [Pt.U, Pt.locs, Pt.cells, Pt.slots] at X' l' y' z' st hQ
  subst l' y' z'
  exact own_by st (k v T' Lc X' hQ)
theorem own_callS0 (X : Stand p l e R s m args below meth c T locs cells slots) (hx : p.tables.exec = Jvm.exec) (hZ : Z.Warmed39 s.vm) {own : String} {index : Nat} {y : MethodName} {bytes : ByteArray} {maxL : Nat} {ret : Option FieldType} {fr lo : Nat} {argsL rest : List Value} {w : Value} {W : Nat}
    (hown : s.vm.findClass own = some m.cls) (w1 : (Cond.methodLink own index y).before a0 Z = true) (w2 : (Cond.static y).before a0 Z = true) (w3 : (Cond.initialized y.cls).before a0 Z = true) (w4 : (Cond.code y bytes maxL ret).before a0 Z = true)
    (hy : y.cls ≠ "java/lang/invoke/MethodHandle" ∧ y.cls ≠ "java/lang/invoke/VarHandle") (eT : T.heap = h) (D : own_Does l Z y bytes maxL ret [] { frames := fr, cells := 0, slots := 0, locals := lo } argsL.toArray h (own_Is w h))
    (hf : fr + 1 ≤ R.frames) (hl : W + (maxL + 11) + lo ≤ R.locals) (hc : cells ≤ R.cells) (hn : slots ≤ R.slots)
    {pc : Nat} {Ls : Array Slot} {S : List Value} (hsize : Ls.size = c.maxLocals) (hlen : ∀ sig, parseMethodDescriptor y.desc = some sig → argsL.length = sig.parameters.length) (hstack : S = argsL.reverse ++ rest) (hW : 2 * 0 + (rest.map fun v => v.category).sum ≤ W) (hd : decode c.code pc = .ok (.invokestatic index, 3))
    (k : ∀ T', Stand p l e R s m args below meth c T' locs cells slots → T'.heap = h → own_Goes p e below P (T'.setTop (mkF m (pc + 3) Ls (w :: rest)))) :
    own_Goes p e below P (T.setTop (mkF m pc Ls S)) := by
  refine own_callS X hx hZ hown w1 w2 w3 w4 hy eT D hf hl hc hn hsize hlen hstack hW hd fun v T' L' X' hQ => ?_
  obtain ⟨rfl, rfl, e'⟩ := hQ
  rw [List.append_nil] at X'
  exact k T' X' e'
theorem own_callV (X : Stand p l e R s m args below meth c T locs cells slots) (hx : p.tables.exec = Jvm.exec) (hZ : Z.Warmed39 s.vm) {own K : String} {index : Nat} {y : MethodName} {bytes : ByteArray} {maxL : Nat} {ret : Option FieldType} {rm : Room} {b : Addr} {argsL rest : List Value} {Qc : Option Value → Heap → List Loc → Prop} {W : Nat}
    (hown : s.vm.findClass own = some m.cls) (w1 : (Cond.methodLink own index y).before a0 Z = true) (w2 : (Cond.declares y).before a0 Z = true) (w3 : (Cond.selects K y y).before a0 Z = true) (w4 : (Cond.instanceMethod y).before a0 Z = true) (w5 : (Cond.code y bytes maxL ret).before a0 Z = true) (w6 : (Cond.initialized y.cls).before a0 Z = true)
    (hy : y.cls ≠ "java/lang/invoke/MethodHandle" ∧ y.cls ≠ "java/lang/invoke/VarHandle") (eT : T.heap = h) (E : Exa Z h b K) (D : own_Does l Z y bytes maxL ret [] rm (.ref b :: argsL).toArray h Qc)
    (hf : rm.frames + 1 ≤ R.frames) (hl : W + (maxL + 11) + rm.locals ≤ R.locals) (hc : cells + rm.cells ≤ R.cells) (hn : slots + rm.slots ≤ R.slots)
    {pc : Nat} {Ls : Array Slot} {S : List Value} (hsize : Ls.size = c.maxLocals) (hlen : ∀ sig, parseMethodDescriptor y.desc = some sig → argsL.length = sig.parameters.length) (hstack : S = argsL.reverse ++ .ref b :: rest) (hW : 2 * 0 + (rest.map fun v => v.category).sum ≤ W) (hd : decode c.code pc = .ok (.invokevirtual index, 3))
    (k : ∀ v T' L', Stand p l e R s m args below meth c T' (locs ++ L') (cells + rm.cells) (slots + rm.slots) → Qc v T'.heap L' → own_Goes p e below P (T'.setTop (mkF m (pc + 3) Ls (v.toList ++ rest)))) :
    own_Goes p e below P (T.setTop (mkF m pc Ls S)) := by
  obtain ⟨cq, kq, qa, -, qc⟩ := isOf (T := T) hZ eT E
  obtain ⟨v, _, ⟨T', L', k', n'⟩, -, X', ⟨Lc, hQ, l', y', z'⟩, st⟩ := X.virtualBack hx (y := y) (z := y) hown (mvT hZ w1) (mvT hZ w2) (notFace_of_selects (args := #[]) (mvT hZ w3)) (mvT hZ w3) (mvT hZ w4) hy (backOf (W := W) D hZ w5 w6 hf hl) qa qc (g := mkF m pc Ls S) rfl hsize (Steps.refl _) (argsL := argsL) (rest := rest) hlen hstack hW hd (fun _ _ => ⟨rfl, eT, hc, hn⟩)
  dsimp only [Pt.U, Pt.locs, Pt.cells, Pt.slots] at X' l' y' z' st hQ
  subst l' y' z'
  exact own_tr st (k v T' Lc X' hQ)
theorem own_callV0 (X : Stand p l e R s m args below meth c T locs cells slots) (hx : p.tables.exec = Jvm.exec) (hZ : Z.Warmed39 s.vm) {own K : String} {index : Nat} {y : MethodName} {bytes : ByteArray} {maxL : Nat} {ret : Option FieldType} {fr lo : Nat} {b : Addr} {argsL rest : List Value} {w : Value} {W : Nat}
    (hown : s.vm.findClass own = some m.cls) (w1 : (Cond.methodLink own index y).before a0 Z = true) (w2 : (Cond.declares y).before a0 Z = true) (w3 : (Cond.selects K y y).before a0 Z = true) (w4 : (Cond.instanceMethod y).before a0 Z = true) (w5 : (Cond.code y bytes maxL ret).before a0 Z = true) (w6 : (Cond.initialized y.cls).before a0 Z = true)
    (hy : y.cls ≠ "java/lang/invoke/MethodHandle" ∧ y.cls ≠ "java/lang/invoke/VarHandle") (eT : T.heap = h) (E : Exa Z h b K) (D : own_Does l Z y bytes maxL ret [] { frames := fr, cells := 0, slots := 0, locals := lo } (.ref b :: argsL).toArray h (own_Is w h))
    (hf : fr + 1 ≤ R.frames) (hl : W + (maxL + 11) + lo ≤ R.locals) (hc : cells ≤ R.cells) (hn : slots ≤ R.slots)
    {pc : Nat} {Ls : Array Slot} {S : List Value} (hsize : Ls.size = c.maxLocals) (hlen : ∀ sig, parseMethodDescriptor y.desc = some sig → argsL.length = sig.parameters.length) (hstack : S = argsL.reverse ++ .ref b :: rest) (hW : 2 * 0 + (rest.map fun v => v.category).sum ≤ W) (hd : decode c.code pc = .ok (.invokevirtual index, 3))
    (k : ∀ T', Stand p l e R s m args below meth c T' locs cells slots → T'.heap = h → own_Goes p e below P (T'.setTop (mkF m (pc + 3) Ls (w :: rest)))) :
    own_Goes p e below P (T.setTop (mkF m pc Ls S)) := by
  refine own_callV X hx hZ hown w1 w2 w3 w4 w5 w6 hy eT E D hf hl hc hn hsize hlen hstack hW hd fun v T' L' X' hQ => ?_
  obtain ⟨rfl, rfl, e'⟩ := hQ
  rw [List.append_nil] at X'
  exact k T' X' e'
theorem own_getS (X : Stand p l e R s m args below meth c T locs cells slots) (hx : p.tables.exec = Jvm.exec) (hZ : Z.Warmed39 s.vm) {own O n d : String} {index : Nat} (hown : s.vm.findClass own = some m.cls) (w : (Cond.fieldLink own index O n d).before a0 Z = true) (eT : T.heap = h) {v : Value} (F : Sta Z h O n d v)
    {pc : Nat} {Ls : Array Slot} {S : List Value} (hd : decode c.code pc = .ok (.getstatic index, 3))
    (k : ∀ T', Stand p l e R s m args below meth c T' locs cells slots → T'.heap = h → own_Goes p e below P (T'.setTop (mkF m (pc + 3) Ls (v :: S)))) :
    own_Goes p e below P (T.setTop (mkF m pc Ls S)) := by
  obtain ⟨T', X', e', st⟩ := getS X hx hZ (host := "") hown w Via.refl eT F (g := mkF m pc Ls S) rfl hd
  exact own_by st (k T' X' e')
theorem own_getF (X : Stand p l e R s m args below meth c T locs cells slots) (hx : p.tables.exec = Jvm.exec) (hZ : Z.Warmed39 s.vm) {own O n d : String} {index : Nat} (hown : s.vm.findClass own = some m.cls) (w : (Cond.fieldLink own index O n d).before a0 Z = true) (eT : T.heap = h) {a : Addr} {v : Value} (F : Fld Z h a O n d v)
    {pc : Nat} {Ls : Array Slot} {S : List Value} (hd : decode c.code pc = .ok (.getfield index, 3))
    (k : ∀ T', Stand p l e R s m args below meth c T' locs cells slots → T'.heap = h → own_Goes p e below P (T'.setTop (mkF m (pc + 3) Ls (v :: S)))) :
    own_Goes p e below P (T.setTop (mkF m pc Ls (.ref a :: S))) := by
  obtain ⟨T', X', e', st⟩ := getF X hx hZ (host := "") hown (Or.inl w) Via.refl eT F (g := mkF m pc Ls (.ref a :: S)) rfl rfl hd
  exact own_by st (k T' X' e')
/-! a callee or a road that may load a String constant -/
def own_PW (s : State) (Q : Option Value → Heap → List Loc → Prop) (C N : Nat) : Outcome → State → Prop := fun o s₂ => ∃ v L, o = .returned v ∧ Q v s₂.heap L ∧ ReturnedEndW s o s₂ L C N
theorem own_endW {vm0 : Vm} {k0 : Nat} (X : Stand p l e R (s.setVm vm0) m args below meth c T locs cells slots) (hS : s.Since vm0 k0) (hk : k0 ≤ T.heap.size) (hlk : meth.locks = false) (v : Option Value) (hv : meth.sig.returnType = none → v = none) (hC : cells ≤ C) (hN : slots ≤ N) (hq : Q v T.heap locs) :
    ∃ fs, (∀ (f : JFrame) (acts : List Action), f.method = m → f.locked = none → f.entered = [] → (doReturn e (T.setTop f) acts v).1 = T.setFrames fs) ∧ ∀ t0, Steps p.tables e below t0 (T.setFrames fs) → own_Goes p e below (own_PW s Q C N) t0 := by
  obtain ⟨fs, hr, hrun, hended, -, h1, h2, h3⟩ := X.leaveW hS hk hv hlk
  exact ⟨fs, hr, fun t0 st => ⟨_, _, st, hrun, hended, _, _, rfl, hq, ⟨_, rfl⟩, h1, h2, h3.mono hC hN⟩⟩
theorem own_retNW {vm0 : Vm} {k0 : Nat} (X : Stand p l e R (s.setVm vm0) m args below meth c T locs cells slots) (hS : s.Since vm0 k0) (hk : k0 ≤ T.heap.size) (hx : p.tables.exec = Jvm.exec) (hlk : meth.locks = false) {pc : Nat} {Ls : Array Slot} {z : Int32} {ty : FieldType} {rest : List Value} (hret : meth.sig.returnType = some ty) (ht : ty = .boolean ∨ ty = .byte ∨ ty = .char ∨ ty = .short) (hd : decode c.code pc = .ok (.ireturn, 1)) (hC : cells ≤ C) (hN : slots ≤ N) (hq : Q (some (.int (nar ty z))) T.heap locs) : own_Goes p e below (own_PW s Q C N) (T.setTop (mkF m pc Ls (.int z :: rest))) := by
  obtain ⟨fs, hr, k⟩ := own_endW X hS hk hlk (some (.int (nar ty z))) (fun h => by rw [hret] at h; cases h) hC hN hq
  exact k _ (retN X hx hret ht hd hr)
theorem own_retRW {vm0 : Vm} {k0 : Nat} (X : Stand p l e R (s.setVm vm0) m args below meth c T locs cells slots) (hS : s.Since vm0 k0) (hk : k0 ≤ T.heap.size) (hx : p.tables.exec = Jvm.exec) (hlk : meth.locks = false) {pc : Nat} {Ls : Array Slot} {w : Value} {ty : FieldType} {rest : List Value} (hret : meth.sig.returnType = some ty) (ht : ty.isReference = true) (hw : w.isRef = true) (hn : narrow ty w = w) (hd : decode c.code pc = .ok (.areturn, 1)) (hC : cells ≤ C) (hN : slots ≤ N) (hq : Q (some w) T.heap locs) : own_Goes p e below (own_PW s Q C N) (T.setTop (mkF m pc Ls (w :: rest))) := by
  obtain ⟨fs, hr, k⟩ := own_endW X hS hk hlk (some w) (fun h => by rw [hret] at h; cases h) hC hN hq
  exact k _ (retOut X hx hret hn (Or.inr (Or.inr (Or.inr (Or.inr ⟨rfl, ht, hw⟩)))) hd hr)
theorem own_retVW {vm0 : Vm} {k0 : Nat} (X : Stand p l e R (s.setVm vm0) m args below meth c T locs cells slots) (hS : s.Since vm0 k0) (hk : k0 ≤ T.heap.size) (hx : p.tables.exec = Jvm.exec) (hlk : meth.locks = false) {pc : Nat} {Ls : Array Slot} (hret : meth.sig.returnType = none) (hd : decode c.code pc = .ok (.return_, 1)) (hC : cells ≤ C) (hN : slots ≤ N) (hq : Q none T.heap locs) : own_Goes p e below (own_PW s Q C N) (T.setTop (mkF m pc Ls [])) := by
  obtain ⟨fs, hr, k⟩ := own_endW X hS hk hlk none (fun _ => rfl) hC hN hq
  exact k _ (X.returnOut hx hret hd hr)
def own_DoesW (l : Launch) (Z : State) (y : MethodName) (bytes : ByteArray) (maxL : Nat) (ret : Option FieldType) (ws : List Jvm.Cond) (rm : Room) (as' : Array Value) (h : Heap) (Qc : Option Value → Heap → List Loc → Prop) : Prop :=
  MetFree l y (head1 (Jvm.Cond.code y bytes maxL ret :: ws) rm) (fun a U => a = as' ∧ Z.Warmed39 U.vm ∧ U.heap = h) (fun _ _ _ _ _ => True) (fun _ U o U' => ∃ v L, o = .returned v ∧ Qc v U'.heap L ∧ ReturnedEndW U o U' L rm.cells rm.slots)
theorem own_bodyW {y : MethodName} {bytes : ByteArray} {maxL : Nat} {ret : Option FieldType} {ws : List Jvm.Cond} {rm : Room} {as' : Array Value} (hpn : plainName y.cls = true)
    (body : ∀ (p : Program) (e : Env) (s : State) (m : MethodId) (below : List Frame) (meth : Method) (c : Code) (T : State), p.tables.exec = Jvm.exec → c.code = bytes → c.maxLocals = maxL → meth.sig.returnType = ret → meth.locks = false → meth.name = y.name → (s.setVm s.vm).vm.findClass y.cls = some m.cls → Z.Warmed39 (s.setVm s.vm).vm → s.Since s.vm 0 → Stand p l e rm (s.setVm s.vm) m as' below meth c T [] 0 0 → T.heap = h → own_Goes p e below (own_PW s Q rm.cells rm.slots) (T.setTop (entryFrame m as' maxL))) :
    own_DoesW l Z y bytes maxL ret ws rm as' h Q := by
  refine MetFree.of_bodySF (plainFor_of_name hpn) hisR ?_
  intro p e s m args below meth c s₁ Bd hml0 hP hK
  obtain ⟨rfl, hZ, hh⟩ := hP
  exact body p e s m below meth c s₁ Bd.exec Bd.bytes hml0 Bd.returns Bd.notSynchronized (name_of_methodNamed Bd.named Bd.method).1 (findClass_of_methodNamed Bd.named) hZ ((State.WarmedH.refl s).since 0) (Stand.of_body Bd) (by rw [← hh, Bd.state]; rfl)
theorem own_ldcS {vm0 : Vm} {k0 : Nat} (X : Stand p l e R (s.setVm vm0) m args below meth c T locs cells slots) (hx : p.tables.exec = Jvm.exec) (hZ : Z.Warmed39 (s.setVm vm0).vm) {own text : String} {index : Nat} (hown : (s.setVm vm0).vm.findClass own = some m.cls) (w : (Cond.stringLink own index text).before a0 Z = true) (wS : ∀ a ∈ Bundle.stringAtoms, a.before a0 Z = true)
    (eT : T.heap = h) (hS : s.Since vm0 k0) (hk : k0 ≤ h.size) {pc : Nat} {Ls : Array Slot} {S : List Value} (hd : decode c.code pc = .ok (.ldc index, 2)) {n : Nat} (hn : 4 * text.toList.length ≤ n) (hbig : n ≤ 536870912) (hc : cells + 2 ≤ R.cells) (hl : slots + (n + 4) ≤ R.slots)
    (k : ∀ (a : Addr) (T' : State) (h' : Heap) (k1 : Nat), Stand p l e R (s.setVm T'.vm) m args below meth c T' locs (cells + 2) (slots + (n + 4)) → T'.heap = h' → Ext h h' → s.Since T'.vm k1 → k1 ≤ h'.size → Z.Warmed39 (s.setVm T'.vm).vm → (s.setVm T'.vm).vm.findClass own = some m.cls → own_Goes p e below P (T'.setTop (mkF m (pc + 2) Ls (.ref a :: S)))) :
    own_Goes p e below P (T.setTop (mkF m pc Ls S)) := by
  obtain ⟨a, T', h', k1, X', e', E', hS', hk', hZ', hown', st⟩ := ldcS X hx hZ hown w wS eT hS hk (g := mkF m pc Ls S) rfl hd hn hbig hc hl
  exact own_by st (k a T' h' k1 X' e' E' hS' hk' hZ' hown')
theorem own_callSS {vm0 : Vm} {k0 : Nat} (X : Stand p l e R (s.setVm vm0) m args below meth c T locs cells slots) (hx : p.tables.exec = Jvm.exec) (hZ : Z.Warmed39 (s.setVm vm0).vm) (hS : s.Since vm0 k0) (hk : k0 ≤ T.heap.size) {own : String} {index : Nat} {y : MethodName} {bytes : ByteArray} {maxL : Nat} {ret : Option FieldType} {rm : Room} {argsL rest : List Value} {Qc : Option Value → Heap → List Loc → Prop} {W : Nat}
    (hown : (s.setVm vm0).vm.findClass own = some m.cls) (w1 : (Cond.methodLink own index y).before a0 Z = true) (w2 : (Cond.static y).before a0 Z = true) (w3 : (Cond.initialized y.cls).before a0 Z = true) (w4 : (Cond.code y bytes maxL ret).before a0 Z = true)
    (hy : y.cls ≠ "java/lang/invoke/MethodHandle" ∧ y.cls ≠ "java/lang/invoke/VarHandle") (eT : T.heap = h) (D : own_DoesW l Z y bytes maxL ret [] rm argsL.toArray h Qc)
    (hf : rm.frames + 1 ≤ R.frames) (hl : W + (maxL + 11) + rm.locals ≤ R.locals) (hc : cells + rm.cells ≤ R.cells) (hn : slots + rm.slots ≤ R.slots)
    {pc : Nat} {Ls : Array Slot} {S : List Value} (hsize : Ls.size = c.maxLocals) (hlen : ∀ sig, parseMethodDescriptor y.desc = some sig → argsL.length = sig.parameters.length) (hstack : S = argsL.reverse ++ rest) (hW : 2 * 0 + (rest.map fun v => v.category).sum ≤ W) (hd : decode c.code pc = .ok (.invokestatic index, 3))
    (k : ∀ v T' L', Stand p l e R (s.setVm T'.vm) m args below meth c T' (locs ++ L') (cells + rm.cells) (slots + rm.slots) → s.Since T'.vm T'.heap.size → Z.Warmed39 (s.setVm T'.vm).vm → (s.setVm T'.vm).vm.findClass own = some m.cls → Qc v T'.heap L' → own_Goes p e below P (T'.setTop (mkF m (pc + 3) Ls (v.toList ++ rest)))) :
    own_Goes p e below P (T.setTop (mkF m pc Ls S)) := by
  obtain ⟨v, _, ⟨T', L', k', n'⟩, -, X', hS2, hg2, ⟨Lc, hQ, l', y', z'⟩, st⟩ := callSS X hx hown (mvT hZ w1) (mvT hZ w2) (mvT hZ w3) (mvT hZ w4) hy (backOfS (W := W) D hZ w4 w3 hf hl) (g := mkF m pc Ls S) rfl hsize (argsL := argsL) (rest := rest) hlen hstack hW hd (fun _ _ => ⟨rfl, eT, hc, hn⟩)
  dsimp only [Pt.U, Pt.locs, Pt.cells, Pt.slots] at X' l' y' z' st hQ hS2 hg2
  subst l' y' z'
  obtain ⟨X2, hS3, hZ3, hown3⟩ := rebS hS hk X' hS2 hg2 hZ hown
  exact own_tr st (k v T' Lc X2 hS3 hZ3 hown3 hQ)
theorem own_callIS {vm0 : Vm} {k0 : Nat} (X : Stand p l e R (s.setVm vm0) m args below meth c T locs cells slots) (hx : p.tables.exec = Jvm.exec) (hZ : Z.Warmed39 (s.setVm vm0).vm) (hS : s.Since vm0 k0) (hk : k0 ≤ T.heap.size) {own : String} {index : Nat} {y : MethodName} {bytes : ByteArray} {maxL : Nat} {rm : Room} {a : Addr} {argsL rest : List Value} {Qc : Option Value → Heap → List Loc → Prop} {W : Nat} (hy1 : y.name = "<init>")
    (hown : (s.setVm vm0).vm.findClass own = some m.cls) (w1 : (Cond.methodLink own index y).before a0 Z = true) (w2 : (Cond.instanceMethod y).before a0 Z = true) (w3 : (Cond.code y bytes maxL none).before a0 Z = true) (w4 : (Cond.initialized y.cls).before a0 Z = true)
    (hy : y.cls ≠ "java/lang/invoke/MethodHandle" ∧ y.cls ≠ "java/lang/invoke/VarHandle") (eT : T.heap = h) (D : own_DoesW l Z y bytes maxL none [] rm (.ref a :: argsL).toArray h Qc)
    (hf : rm.frames + 1 ≤ R.frames) (hl : W + (maxL + 11) + rm.locals ≤ R.locals) (hc : cells + rm.cells ≤ R.cells) (hn : slots + rm.slots ≤ R.slots)
    {pc : Nat} {Ls : Array Slot} {S : List Value} (hsize : Ls.size = c.maxLocals) (hlen : ∀ sig, parseMethodDescriptor y.desc = some sig → argsL.length = sig.parameters.length) (hstack : S = argsL.reverse ++ .ref a :: rest) (hW : 2 * 0 + (rest.map fun v => v.category).sum ≤ W) (hd : decode c.code pc = .ok (.invokespecial index, 3))
    (k : ∀ v T' L', Stand p l e R (s.setVm T'.vm) m args below meth c T' (locs ++ L') (cells + rm.cells) (slots + rm.slots) → s.Since T'.vm T'.heap.size → Z.Warmed39 (s.setVm T'.vm).vm → (s.setVm T'.vm).vm.findClass own = some m.cls → Qc v T'.heap L' → own_Goes p e below P (T'.setTop (mkF m (pc + 3) Ls (v.toList ++ rest)))) :
    own_Goes p e below P (T.setTop (mkF m pc Ls S)) := by
  obtain ⟨v, _, ⟨T', L', k', n'⟩, -, X', hS2, hg2, ⟨Lc, hQ, l', y', z'⟩, st⟩ := X.specialBackS hx (y := y) hy1 hown (mvT hZ w1) (mvT hZ w2) (mvT hZ w3) hy (backOfS (W := W) D hZ w3 w4 hf hl) (g := mkF m pc Ls S) rfl hsize (Steps.refl _) (a := a) (argsL := argsL) (rest := rest) hlen hstack hW hd (fun _ _ => ⟨rfl, eT, hc, hn⟩)
  dsimp only [Pt.U, Pt.locs, Pt.cells, Pt.slots] at X' l' y' z' st hQ hS2 hg2
  subst l' y' z'
  obtain ⟨X2, hS3, hZ3, hown3⟩ := rebS hS hk X' hS2 hg2 hZ hown
  exact own_tr st (k v T' Lc X2 hS3 hZ3 hown3 hQ)
theorem own_notIns {O N1 C1 K : String} {n : Nat} (w1 : (Cond.superclass C1 N1).before a0 Z = true) (w2 : (Cond.superclass N1 O).before a0 Z = true) (w3 : (Cond.noSuperclass O).before a0 Z = true) (wi : (Cond.instantiable K n).before a0 Z = true) (h1 : O ≠ K) (h2 : N1 ≠ K) (h3 : C1 ≠ K) : ∃ c t, Z.vm.findClass C1 = some c ∧ Z.vm.findClass K = some t ∧ Z.vm.assignable c t = false := by
  obtain ⟨t, kt, g1, g2, g3, g4, -⟩ := Cond.instantiable_spec wi
  have root : NS Z O K := by
    obtain ⟨c, k, q1, q2, q3, -, -⟩ := Cond.noSuperclass_spec w3
    have ne := ids_ne q1 g1 h1
    refine ⟨c, t, q1, g1, fun fuel => ?_⟩
    cases fuel with
    | zero => rfl
    | succ f => simp [Vm.isSubclassAux, ne, q2, q3]
  obtain ⟨c, t', q0, q1, n3⟩ := NS.step w1 (NS.step w2 root h2) h3
  cases g1.symm.trans q1
  obtain ⟨p, k, kp, r1, r2, r3, r4, r5, -, r7⟩ := Cond.superclass_spec q0 w1
  have ne := ids_ne q0 g1 h3
  have g5 : kt.isInterface = false := by
    cases hq : kt.isInterface
    · rfl
    · rw [hq] at g4; cases g4
  refine ⟨c, t, q0, g1, ?_⟩
  show Z.vm.assignableAux (255 + 1) c t = false
  simp [Vm.assignableAux, ne, r2, g2, r5, g3, g5, Vm.isSubclass, n3]
/-! from the case's words -/
theorem own_eqR {args : Array Value} {s : State} {a b : Term} {y : Addr} (h1 : (Cond.eq a b).value args s none s [] = some true) (h2 : b.eval args s none [] s = some (.ref y)) : a.eval args s none [] s = some (.ref y) := by
  simp only [Cond.value, h2] at h1
  cases ha : a.eval args s none [] s with
  | none => simp [ha] at h1
  | some x => cases x <;> simp [ha] at h1 ⊢ <;> exact h1
theorem own_eqI {args : Array Value} {s : State} {a : Term} {n : Int32} (h1 : (Cond.eq a (.int n)).value args s none s [] = some true) : a.eval args s none [] s = some (.int n) := by
  have h2 : (Term.int n).eval args s none [] s = some (.int n) := rfl
  simp only [Cond.value, h2] at h1
  cases ha : a.eval args s none [] s with
  | none => simp [ha] at h1
  | some x => cases x <;> simp [ha] at h1 ⊢ <;> exact h1
theorem own_fld {args : Array Value} {s : State} {t : Term} {a : Addr} {C n d : String} {v : Value} (ht : t.eval args s none [] s = some (.ref a)) (h : (Term.field t C n d).eval args s none [] s = some v) : Fld s s.heap a C n d v := Fld.start (by rw [← fld_at ht]; exact h)
/-- two objects whose field differs are two -/
theorem own_ne {a b : Addr} {C n d : String} {v w : Value} (F : Fld Z h a C n d v) (G : Fld Z h b C n d w) (hn : v ≠ w) : a ≠ b := fun q => by
  subst q
  obtain ⟨c1, f1, k1, i1, g1, h1, h2, -, -, -, -, h7⟩ := F
  obtain ⟨c2, f2, k2, i2, g2, e1, e2, -, -, -, -, e7⟩ := G
  cases h1.symm.trans e1
  cases h2.symm.trans e2
  exact hn (Option.some.inj (h7.symm.trans e7))
/-! arrays: the array at a has n components, the i-th is f i -/
def own_ArrF (Z : State) (h : Heap) (a : Addr) (ty : FieldType) (n : Nat) (f : Nat → Value) : Prop := ∃ cell, Arr Z h a cell ty ∧ cell.slots.size = n ∧ n < 2 ^ 31 ∧ ∀ i, i < n → cell.slots[i]? = some (f i)
theorem own_len {args : Array Value} {s : State} {t : Term} {a : Addr} {cell : Cell} {n : Int32} (h : (Term.length t).eval args s none [] s = some (.int n)) (ht : t.eval args s none [] s = some (.ref a)) (hc : s.arrayAt? a = some cell) : cell.slots.size < 2 ^ 31 ∧ cell.slots.size.toInt32 = n := by
  simp only [Term.eval, ht, hc, Option.bind_eq_bind, Option.bind_some] at h
  split at h
  · rename_i q
    exact ⟨q, by simpa using h⟩
  · cases h
theorem own_clamp {j : Int32} {i : Nat} (h : j.toInt = i) : j.toNatClampNeg = i := by
  show j.toInt.toNat = i
  omega
theorem own_in {j : Int32} {i n : Nat} (h : j.toInt = i) (hi : i < n) : ¬ (j < 0 ∨ n ≤ j.toNatClampNeg) := by
  rw [own_clamp h, Int32.lt_iff_toInt_lt]
  have q : (0 : Int32).toInt = 0 := rfl
  omega
theorem own_arrF {args : Array Value} {s : State} {t : Term} {a : Addr} {ty : FieldType} {f : Nat → Value} {n : Nat} {n32 : Int32} (ht : t.eval args s none [] s = some (.ref a)) (h1 : (Cond.arrayOf t ty).value args s none s [] = some true) (h2 : (Cond.eq (.length t) (.int n32)).value args s none s [] = some true) (hn : n32.toInt = n)
    (hel : ∀ cell, s.arrayAt? a = some cell → s.heap[a]? = some cell → cell.slots.size = n → ∀ i, i < n → cell.slots[i]? = some (f i)) : own_ArrF s s.heap a ty n f := by
  obtain ⟨cell, Ac⟩ := Arr.start ht h1
  have hat := Ac.fin (Vm.Alike.refl _)
  obtain ⟨q1, q2⟩ := own_len (own_eqI h2) ht hat
  have q3 : cell.slots.size = n := by
    have q4 := congrArg Int32.toInt q2
    rw [len_toInt q1, hn] at q4
    omega
  exact ⟨cell, Ac, q3, by omega, hel cell hat Ac.1 q3⟩
theorem own_el {args : Array Value} {s : State} {t : Term} {a : Addr} {cell : Cell} {j : Int32} {v : Value} {i : Nat} (ht : t.eval args s none [] s = some (.ref a)) (hc : s.heap[a]? = some cell) (h : (Term.elem t (.int j)).eval args s none [] s = some v) (hj : j.toInt = i) : cell.slots[i]? = some v := by
  have q := (elem_in h ht rfl hc).2
  rw [own_clamp hj] at q
  exact q
theorem own_ArrF.ext {h' : Heap} {a : Addr} {ty : FieldType} {n : Nat} {f : Nat → Value} (E : Ext h h') (F : own_ArrF Z h a ty n f) : own_ArrF Z h' a ty n f := by
  obtain ⟨cell, h1, h2⟩ := F
  exact ⟨cell, h1.ext E, h2⟩
theorem own_ArrF.keep {h' : Heap} {a : Addr} {ty : FieldType} {n : Nat} {f : Nat → Value} {b : Addr} {sl : Nat} {v : Value} (W : Wr h h' b sl v) (F : own_ArrF Z h a ty n f) (hne : a ≠ b) : own_ArrF Z h' a ty n f := by
  obtain ⟨cell, h1, h2⟩ := F
  exact ⟨cell, h1.other W hne, h2⟩
theorem own_ArrF.set {h' : Heap} {a : Addr} {ty : FieldType} {n : Nat} {f : Nat → Value} {j : Nat} {v : Value} (F : own_ArrF Z h a ty n f) (hj : j < n) (W : Wr h h' a j v) : own_ArrF Z h' a ty n (fun i => if i = j then v else f i) := by
  obtain ⟨cell, h1, h2, h3, h4⟩ := F
  refine ⟨cell.setSlot j v, h1.same W, by simp [Cell.setSlot, h2], h3, fun i hi => ?_⟩
  show _ = some (if i = j then v else f i)
  by_cases q : i = j
  · subst q
    rw [if_pos rfl]
    simp [Cell.setSlot, h2, hi]
  · rw [if_neg q, ← h4 i hi]
    exact Array.getElem?_setIfInBounds_ne (Ne.symm q)
theorem own_ArrF.mono {a : Addr} {ty : FieldType} {n : Nat} {f g : Nat → Value} (F : own_ArrF Z h a ty n f) (hg : ∀ i, i < n → f i = g i) : own_ArrF Z h a ty n g := by
  obtain ⟨cell, h1, h2, h3, h4⟩ := F
  exact ⟨cell, h1, h2, h3, fun i hi => by rw [h4 i hi, hg i hi]⟩
theorem own_alen (X : Stand p l e R s m args below meth c T locs cells slots) (hx : p.tables.exec = Jvm.exec) (hZ : Z.Warmed39 s.vm) (eT : T.heap = h) {a : Addr} {ty : FieldType} {n : Nat} {f : Nat → Value} (F : own_ArrF Z h a ty n f)
    {pc : Nat} {Ls : Array Slot} {S : List Value} (hd : decode c.code pc = .ok (.arraylength, 1)) (k : own_Goes p e below P (T.setTop (mkF m (pc + 1) Ls (.int n.toInt32 :: S)))) : own_Goes p e below P (T.setTop (mkF m pc Ls (.ref a :: S))) := by
  obtain ⟨cell, h1, h2, h3, h4⟩ := F
  subst h2
  exact own_by (fun _ q => X.arraylength hx (by rw [eT]; exact h1.1) (State.isArrayOf_alike hZ.alike h1.2.1) (g := mkF m pc Ls (.ref a :: S)) rfl rfl hd _ q) k
theorem own_aaload (X : Stand p l e R s m args below meth c T locs cells slots) (hx : p.tables.exec = Jvm.exec) (hZ : Z.Warmed39 s.vm) (eT : T.heap = h) {a : Addr} {ty : FieldType} {n : Nat} {f : Nat → Value} (F : own_ArrF Z h a ty n f) (hty : ty.isReference = true) {j : Int32} (i : Nat) (hj : j.toInt = i) (hi : i < n) {v : Value} (hv : f i = v)
    {pc : Nat} {Ls : Array Slot} {S : List Value} (hd : decode c.code pc = .ok (.aaload, 1)) (k : own_Goes p e below P (T.setTop (mkF m (pc + 1) Ls (v :: S)))) : own_Goes p e below P (T.setTop (mkF m pc Ls (.int j :: .ref a :: S))) := by
  obtain ⟨cell, h1, h2, h3, h4⟩ := F
  exact own_by (fun _ q => X.aaload hx (j := j) (v := v) (by rw [eT]; exact h1.1) (State.isArrayOf_alike hZ.alike h1.2.1) hty h1.2.2 (by rw [h2]; exact own_in hj hi) (by rw [own_clamp hj, h4 i hi, hv]) (g := mkF m pc Ls (.int j :: .ref a :: S)) rfl rfl hd _ q) k
theorem own_iaload (X : Stand p l e R s m args below meth c T locs cells slots) (hx : p.tables.exec = Jvm.exec) (hZ : Z.Warmed39 s.vm) (eT : T.heap = h) {a : Addr} {n : Nat} {f : Nat → Value} (F : own_ArrF Z h a .int n f) {j : Int32} (i : Nat) (hj : j.toInt = i) (hi : i < n) {v : Value} (hv : f i = v)
    {pc : Nat} {Ls : Array Slot} {S : List Value} (hd : decode c.code pc = .ok (.iaload, 1)) (k : own_Goes p e below P (T.setTop (mkF m (pc + 1) Ls (v :: S)))) : own_Goes p e below P (T.setTop (mkF m pc Ls (.int j :: .ref a :: S))) := by
  obtain ⟨cell, h1, h2, h3, h4⟩ := F
  exact own_by (fun _ q => X.iaload hx (j := j) (v := v) (by rw [eT]; exact h1.1) (State.isArrayOf_alike hZ.alike h1.2.1) h1.2.2 (by rw [h2]; exact own_in hj hi) (by rw [own_clamp hj, h4 i hi, hv]) (g := mkF m pc Ls (.int j :: .ref a :: S)) rfl rfl hd _ q) k
theorem own_baload (X : Stand p l e R s m args below meth c T locs cells slots) (hx : p.tables.exec = Jvm.exec) (hZ : Z.Warmed39 s.vm) (eT : T.heap = h) {a : Addr} {n : Nat} {f : Nat → Value} (F : own_ArrF Z h a .byte n f) {j : Int32} (i : Nat) (hj : j.toInt = i) (hi : i < n) {v : Value} (hv : f i = v)
    {pc : Nat} {Ls : Array Slot} {S : List Value} (hd : decode c.code pc = .ok (.baload, 1)) (k : own_Goes p e below P (T.setTop (mkF m (pc + 1) Ls (v :: S)))) : own_Goes p e below P (T.setTop (mkF m pc Ls (.int j :: .ref a :: S))) := by
  obtain ⟨cell, h1, h2, h3, h4⟩ := F
  exact own_by (fun _ q => X.baloadBytes hx (j := j) (v := v) (by rw [eT]; exact h1.1) (State.isArrayOf_alike hZ.alike h1.2.1) h1.2.2 (by rw [h2]; exact own_in hj hi) (by rw [own_clamp hj, h4 i hi, hv]) (g := mkF m pc Ls (.int j :: .ref a :: S)) rfl rfl hd _ q) k
theorem own_callVU0 (X : Stand p l e R s m args below meth c T locs cells slots) (hx : p.tables.exec = Jvm.exec) (hZ : Z.Warmed39 s.vm) {own K owner : String} {index : Nat} {y z : MethodName} {bytes : ByteArray} {maxL : Nat} {ret : Option FieldType} {fr lo : Nat} {b : Addr} {argsL rest : List Value} {w : Value} {W : Nat}
    (hown : s.vm.findClass own = some m.cls) (w1 : (Cond.methodLink own index y).before a0 Z = true) (w2 : (Cond.sameMethod y.cls owner y.name y.desc).before a0 Z = true) (w2' : (Cond.declares ⟨owner, y.name, y.desc⟩).before a0 Z = true) (w3 : (Cond.selects K y z).before a0 Z = true) (w4 : (Cond.instanceMethod z).before a0 Z = true) (w5 : (Cond.code z bytes maxL ret).before a0 Z = true) (w6 : (Cond.initialized z.cls).before a0 Z = true)
    (hy : owner ≠ "java/lang/invoke/MethodHandle" ∧ owner ≠ "java/lang/invoke/VarHandle") (eT : T.heap = h) (E : Exa Z h b K) (D : own_Does l Z z bytes maxL ret [] { frames := fr, cells := 0, slots := 0, locals := lo } (.ref b :: argsL).toArray h (own_Is w h))
    (hf : fr + 1 ≤ R.frames) (hl : W + (maxL + 11) + lo ≤ R.locals) (hc : cells ≤ R.cells) (hn : slots ≤ R.slots)
    {pc : Nat} {Ls : Array Slot} {S : List Value} (hsize : Ls.size = c.maxLocals) (hlen : ∀ sig, parseMethodDescriptor y.desc = some sig → argsL.length = sig.parameters.length) (hstack : S = argsL.reverse ++ .ref b :: rest) (hW : 2 * 0 + (rest.map fun v => v.category).sum ≤ W) (hd : decode c.code pc = .ok (.invokevirtual index, 3))
    (k : ∀ T', Stand p l e R s m args below meth c T' locs cells slots → T'.heap = h → own_Goes p e below P (T'.setTop (mkF m (pc + 3) Ls (w :: rest)))) :
    own_Goes p e below P (T.setTop (mkF m pc Ls S)) := by
  obtain ⟨cq, kq, qa, -, qc⟩ := isOf (T := T) hZ eT E
  obtain ⟨v, _, ⟨T', L', k', n'⟩, -, X', ⟨Lc, hQ, l', y', z'⟩, st⟩ := X.virtualBackUp hx (x := y) (y := z) hown (mvT hZ w1) (mvT hZ w2) (mvT hZ w2') hy (mvT hZ w3) (mvT hZ w4) (backOf (W := W) D hZ w5 w6 hf hl) qa qc (g := mkF m pc Ls S) rfl hsize (Steps.refl _) (argsL := argsL) (rest := rest) hlen hstack hW hd (fun _ _ => ⟨rfl, eT, hc, hn⟩)
  dsimp only [Pt.U, Pt.locs, Pt.cells, Pt.slots] at X' l' y' z' st hQ
  subst l' y' z'
  obtain ⟨rfl, rfl, e'⟩ := hQ
  rw [List.append_nil] at X'
  exact own_tr st (k T' X' e')
theorem own_getClass (X : Stand p l e R s m args below meth c T locs cells slots) (hx : p.tables.exec = Jvm.exec) (hZ : Z.Warmed39 s.vm) {own K : String} {index : Nat} {b mir : Addr} {cM : ClassId} {kM : Class} (hown : s.vm.findClass own = some m.cls) (w1 : (Cond.methodLink own index Jvm.Stand.gcN).before a0 Z = true) (w2 : (Cond.declares Jvm.Stand.gcN).before a0 Z = true) (w3 : (Cond.selects K Jvm.Stand.gcN Jvm.Stand.gcN).before a0 Z = true) (w4 : (Cond.instanceMethod Jvm.Stand.gcN).before a0 Z = true) (w5 : (Cond.native Jvm.Stand.gcN).before a0 Z = true)
    (eT : T.heap = h) (E : Exa Z h b K) (m1 : Z.vm.findClass K = some cM) (m2 : Z.vm.classes[cM]? = some kM) (m3 : kM.mirror = some mir)
    {pc : Nat} {Ls : Array Slot} {rest : List Value} (hsize : Ls.size = c.maxLocals) (hd : decode c.code pc = .ok (.invokevirtual index, 3)) (hf : 1 ≤ R.frames) (hl : 2 * 0 + (rest.map fun v => v.category).sum + (nativeFrameWords "java/lang/Object" "getClass" 1 + 11) ≤ R.locals)
    (k : ∀ T', Stand p l e R s m args below meth c T' locs cells slots → T'.heap = h → own_Goes p e below P (T'.setTop (mkF m (pc + 3) Ls (.ref mir :: rest)))) :
    own_Goes p e below P (T.setTop (mkF m pc Ls (.ref b :: rest))) := by
  obtain ⟨cq, kq, qa, qb, qc⟩ := isOf (T := T) hZ eT E
  have e1 : cq = cM := by
    rw [hZ.alike.findClass] at qa
    exact Option.some.inj (qa.symm.trans m1)
  subst e1
  obtain ⟨k', r1, r2⟩ := hZ.alike.2.2 _ _ m2
  cases qb.symm.trans r1
  obtain ⟨vm1, X', st⟩ := X.getClassOf hx hown (mvT hZ w1) (mvT hZ w2) (notFace_of_selects (args := #[]) (mvT hZ w3)) (mvT hZ w3) (mvT hZ w4) (mvT hZ w5) qa qc qb (by rw [r2]; exact m3) (g := mkF m pc Ls (.ref b :: rest)) rfl hsize rfl hd hf hl
  exact own_by st (k _ X' eT)
theorem own_callF0 (X : Stand p l e R s m args below meth c T locs cells slots) (hx : p.tables.exec = Jvm.exec) (hZ : Z.Warmed39 s.vm) {own K : String} {index count : Nat} {y z : MethodName} {bytes : ByteArray} {maxL : Nat} {ret : Option FieldType} {fr lo : Nat} {b : Addr} {argsL rest : List Value} {w : Value} {W : Nat}
    (hown : s.vm.findClass own = some m.cls) (w1 : (Cond.methodLink own index y).before a0 Z = true) (w2 : (Cond.declares y).before a0 Z = true) (w2' : (Cond.interfaceMethod y.cls y.cls y.name y.desc).before args s = true) (w3 : (Cond.selects K y z).before a0 Z = true) (w4 : (Cond.instanceMethod z).before a0 Z = true) (wp : (Cond.publicMethod z).before a0 Z = true) (wu : (Cond.unhidden K y.name y.desc).before a0 Z = true) (wc : (Cond.castable K y.cls).before a0 Z = true) (w5 : (Cond.code z bytes maxL ret).before a0 Z = true) (w6 : (Cond.initialized z.cls).before a0 Z = true)
    (hy : y.cls ≠ "java/lang/invoke/MethodHandle" ∧ y.cls ≠ "java/lang/invoke/VarHandle") (eT : T.heap = h) (E : Exa Z h b K) (D : own_Does l Z z bytes maxL ret [] { frames := fr, cells := 0, slots := 0, locals := lo } (.ref b :: argsL).toArray h (own_Is w h))
    (hf : fr + 1 ≤ R.frames) (hl : W + (maxL + 11) + lo ≤ R.locals) (hc : cells ≤ R.cells) (hn : slots ≤ R.slots)
    {pc : Nat} {Ls : Array Slot} {S : List Value} (hsize : Ls.size = c.maxLocals) (hlen : ∀ sig, parseMethodDescriptor y.desc = some sig → argsL.length = sig.parameters.length) (hstack : S = argsL.reverse ++ .ref b :: rest) (hW : 2 * 0 + (rest.map fun v => v.category).sum ≤ W) (hd : decode c.code pc = .ok (.invokeinterface index count, 5))
    (k : ∀ T', Stand p l e R s m args below meth c T' locs cells slots → T'.heap = h → own_Goes p e below P (T'.setTop (mkF m (pc + 5) Ls (w :: rest)))) :
    own_Goes p e below P (T.setTop (mkF m pc Ls S)) := by
  obtain ⟨cq, kq, qa, qb, qc⟩ := isOf (T := T) hZ eT E
  obtain ⟨v, _, ⟨T', L', k', n'⟩, -, X', ⟨Lc, hQ, l', y', z'⟩, st⟩ := X.interfaceBack hx (xi := y) (y := z) hown (mvT hZ w1) (mvT hZ w2) w2' (mvT hZ w3) (mvT hZ w4) (mvT hZ wp) (mvT hZ wu) (mvT hZ wc) hy (backOf (W := W) D hZ w5 w6 hf hl) qa qb qc (g := mkF m pc Ls S) rfl hsize (Steps.refl _) (argsL := argsL) (rest := rest) hlen hstack hW hd (fun _ _ => ⟨rfl, eT, hc, hn⟩)
  dsimp only [Pt.U, Pt.locs, Pt.cells, Pt.slots] at X' l' y' z' st hQ
  subst l' y' z'
  obtain ⟨rfl, rfl, e'⟩ := hQ
  rw [List.append_nil] at X'
  exact own_tr st (k T' X' e')
theorem own_cast (X : Stand p l e R s m args below meth c T locs cells slots) (hx : p.tables.exec = Jvm.exec) (hZ : Z.Warmed39 s.vm) {own K : String} {index : Nat} (hown : s.vm.findClass own = some m.cls) (w : (Cond.classLink own index K).before a0 Z = true) (eT : T.heap = h) {a : Addr} (F : Ins Z h a K true)
    {pc : Nat} {Ls : Array Slot} {S : List Value} (hd : decode c.code pc = .ok (.checkcast index, 3))
    (k : ∀ T', Stand p l e R s m args below meth c T' locs cells slots → T'.heap = h → own_Goes p e below P (T'.setTop (mkF m (pc + 3) Ls (.ref a :: S)))) :
    own_Goes p e below P (T.setTop (mkF m pc Ls (.ref a :: S))) := by
  obtain ⟨T', X', e', st⟩ := castY X hx hZ hown w eT F (g := mkF m pc Ls (.ref a :: S)) rfl rfl hd
  exact own_by st (k T' X' e')
def own_ArrC (Z : State) (h : Heap) (a : Addr) (ty : FieldType) (n : Nat) (f : Nat → Value) : Prop := ∃ cell, Arr Z h a cell ty ∧ FitC Z cell ∧ cell.slots.size = n ∧ n < 2 ^ 31 ∧ ∀ i, i < n → cell.slots[i]? = some (f i)
theorem own_ArrC.ext {h' : Heap} {a : Addr} {ty : FieldType} {n : Nat} {f : Nat → Value} (E : Ext h h') (F : own_ArrC Z h a ty n f) : own_ArrC Z h' a ty n f := by
  obtain ⟨cell, h1, h2⟩ := F
  exact ⟨cell, h1.ext E, h2⟩
theorem own_ArrF.fit {s : State} {a : Addr} {ty : FieldType} {n : Nat} {f : Nat → Value} (hf : Fit s) (F : own_ArrF s s.heap a ty n f) : own_ArrC s s.heap a ty n f := by
  obtain ⟨cell, h1, h2⟩ := F
  exact ⟨cell, h1, FitC.start hf h1, h2⟩
theorem own_clone (X : Stand p l e R s m args below meth c T locs cells slots) (hx : p.tables.exec = Jvm.exec) (hZ : Z.Warmed39 s.vm) {own ad : String} {index : Nat} {W : Nat} (hown : s.vm.findClass own = some m.cls)
    (w1 : (Cond.methodLink own index ⟨ad, "clone", "()Ljava/lang/Object;"⟩).before a0 Z = true) (w2 : (Cond.sameMethod ad "java/lang/Object" "clone" "()Ljava/lang/Object;").before a0 Z = true) (w3 : (Cond.native ⟨"java/lang/Object", "clone", "()Ljava/lang/Object;"⟩).before a0 Z = true)
    (w4 : (Cond.instanceMethod ⟨"java/lang/Object", "clone", "()Ljava/lang/Object;"⟩).before a0 Z = true) (w5 : (Cond.selects ad ⟨ad, "clone", "()Ljava/lang/Object;"⟩ ⟨"java/lang/Object", "clone", "()Ljava/lang/Object;"⟩).before a0 Z = true) (w6 : (Cond.castable ad "java/lang/Cloneable").before a0 Z = true)
    (eT : T.heap = h) {a : Addr} {ty : FieldType} {n : Nat} {f : Nat → Value} (A : own_ArrC Z h a ty n f) (E : Exa Z h a ad) {pc : Nat} {Ls : Array Slot} {rest : List Value} (hsize : Ls.size = c.maxLocals) (hd : decode c.code pc = .ok (.invokevirtual index, 3))
    (hf : 1 ≤ R.frames) (hW : 2 * 0 + (rest.map fun v => v.category).sum ≤ W) (hl : W + 14 ≤ R.locals) (hc : cells + 1 ≤ R.cells) (hsl : slots + n ≤ R.slots)
    (k : ∀ T' h', Stand p l e R s m args below meth c T' locs (cells + 1) (slots + n) → T'.heap = h' → Ext h h' → own_ArrF Z h' h.size ty n f → Exa Z h' h.size ad → own_Goes p e below P (T'.setTop (mkF m (pc + 3) Ls (.ref h.size :: rest)))) :
    own_Goes p e below P (T.setTop (mkF m pc Ls (.ref a :: rest))) := by
  obtain ⟨cell, h1, h2, h3, h4, h5⟩ := A
  obtain ⟨T', h', X', e', E', A', Ex', st⟩ := cloneA X hx hZ hown w1 w2 w3 w4 w5 w6 eT h1 E h2 (g := mkF m pc Ls (.ref a :: rest)) rfl hsize rfl hd hf (W := W) (cap := n) hW hl (by omega) hc hsl
  exact own_by st (k T' h' X' e' E' ⟨_, A', h3, h4, h5⟩ Ex')
/-! what is made and written -/
theorem own_Ext.refl (h : Heap) : Ext h h := ⟨Nat.le_refl _, fun _ _ q => q⟩
theorem own_Ext.trans {h h' h'' : Heap} (E : Ext h h') (E' : Ext h' h'') : Ext h h'' := ⟨Nat.le_trans E.1 E'.1, fun a c q => E'.2 a c (E.2 a c q)⟩
theorem own_Ext.keep {h h' h'' : Heap} {ws : List Addr} (E : Ext h h') (K : Keep h' h'' ws) (q : ∀ x ∈ ws, h.size ≤ x) : Ext h h'' :=
  ⟨Nat.le_trans E.1 K.1, fun a c r => K.2.1 a c (E.2 a c r) fun z => absurd (Array.getElem?_eq_some_iff.mp r).1 (Nat.not_lt.mpr (q a z))⟩
theorem own_Ext.wr {h h' h'' : Heap} {a : Addr} {sl : Nat} {v : Value} (E : Ext h h') (W : Wr h' h'' a sl v) (q : h.size ≤ a) : Ext h h'' := own_Ext.keep E (Keep.of_wr W) fun x hx => by cases List.mem_singleton.mp hx; exact q
theorem own_newO (X : Stand p l e R s m args below meth c T locs cells slots) (hx : p.tables.exec = Jvm.exec) (hZ : Z.Warmed39 s.vm) {own K : String} {index n : Nat} (hown : s.vm.findClass own = some m.cls) (w : (Cond.classLink own index K).before a0 Z = true) (wi : (Cond.instantiable K n).before a0 Z = true) (wz : (Cond.initialized K).before a0 Z = true) (eT : T.heap = h)
    {pc : Nat} {Ls : Array Slot} {S : List Value} (hd : decode c.code pc = .ok (.new index, 3)) (hc : cells + 1 ≤ R.cells) (hl : slots + n ≤ R.slots)
    (k : ∀ T' h', Stand p l e R s m args below meth c T' locs (cells + 1) (slots + n) → T'.heap = h' → Ext h h' → Exa Z h' h.size K → (∀ (O nm d : String) (ty : FieldType), Laid Z a0 K O nm d → parseFieldDescriptor d = some ty → Fld Z h' h.size O nm d (defaultValue ty)) → own_Goes p e below P (T'.setTop (mkF m (pc + 3) Ls (.ref h.size :: S)))) :
    own_Goes p e below P (T.setTop (mkF m pc Ls S)) := by
  obtain ⟨T', h', X', e', E', A', D', -, st⟩ := newO X hx hZ hown w wi wz eT (g := mkF m pc Ls S) rfl hd hc hl
  exact own_by st (k T' h' X' e' E' A' (fun O nm d ty q r => D' q r))
theorem own_callI (X : Stand p l e R s m args below meth c T locs cells slots) (hx : p.tables.exec = Jvm.exec) (hZ : Z.Warmed39 s.vm) {own : String} {index : Nat} {y : MethodName} {bytes : ByteArray} {maxL : Nat} {rm : Room} {a : Addr} {argsL rest : List Value} {Qc : Option Value → Heap → List Loc → Prop} {W : Nat} (hy1 : y.name = "<init>")
    (hown : s.vm.findClass own = some m.cls) (w1 : (Cond.methodLink own index y).before a0 Z = true) (w2 : (Cond.instanceMethod y).before a0 Z = true) (w3 : (Cond.code y bytes maxL none).before a0 Z = true) (w4 : (Cond.initialized y.cls).before a0 Z = true)
    (hy : y.cls ≠ "java/lang/invoke/MethodHandle" ∧ y.cls ≠ "java/lang/invoke/VarHandle") (eT : T.heap = h) (D : own_Does l Z y bytes maxL none [] rm (.ref a :: argsL).toArray h Qc)
    (hf : rm.frames + 1 ≤ R.frames) (hl : W + (maxL + 11) + rm.locals ≤ R.locals) (hc : cells + rm.cells ≤ R.cells) (hn : slots + rm.slots ≤ R.slots)
    {pc : Nat} {Ls : Array Slot} {S : List Value} (hsize : Ls.size = c.maxLocals) (hlen : ∀ sig, parseMethodDescriptor y.desc = some sig → argsL.length = sig.parameters.length) (hstack : S = argsL.reverse ++ .ref a :: rest) (hW : 2 * 0 + (rest.map fun v => v.category).sum ≤ W) (hd : decode c.code pc = .ok (.invokespecial index, 3))
    (k : ∀ v T' L', Stand p l e R s m args below meth c T' (locs ++ L') (cells + rm.cells) (slots + rm.slots) → Qc v T'.heap L' → own_Goes p e below P (T'.setTop (mkF m (pc + 3) Ls (v.toList ++ rest)))) :
    own_Goes p e below P (T.setTop (mkF m pc Ls S)) := by
  obtain ⟨v, _, ⟨T', L', k', n'⟩, -, X', ⟨Lc, hQ, l', y', z'⟩, st⟩ := X.specialBack hx (y := y) hy1 hown (mvT hZ w1) (mvT hZ w2) (mvT hZ w3) hy (backOf (W := W) D hZ w3 w4 hf hl) (g := mkF m pc Ls S) rfl hsize (Steps.refl _) (a := a) (argsL := argsL) (rest := rest) hlen hstack hW hd (fun _ _ => ⟨rfl, eT, hc, hn⟩)
  dsimp only [Pt.U, Pt.locs, Pt.cells, Pt.slots] at X' l' y' z' st hQ
  subst l' y' z'
  exact own_tr st (k v T' Lc X' hQ)
theorem own_initO (X : Stand p l e R s m args below meth c T locs cells slots) (hx : p.tables.exec = Jvm.exec) (hZ : Z.Warmed39 s.vm) {own : String} {idx : Nat} {a : Addr} {rest : List Value} {W : Nat} (hown : s.vm.findClass own = some m.cls) (w1 : (Cond.methodLink own idx Lib.objectInit).before a0 Z = true) (w2 : (Cond.instanceMethod Lib.objectInit).before a0 Z = true)
    (w3 : (Cond.code Lib.objectInit ⟨#[0xb1]⟩ 1 none).before a0 Z = true) (eT : T.heap = h) {pc : Nat} {Ls : Array Slot} (hsize : Ls.size = c.maxLocals) (hd : decode c.code pc = .ok (.invokespecial idx, 3)) (hf : 1 ≤ R.frames) (hW : 2 * 0 + (rest.map fun v => v.category).sum ≤ W) (hl : W + 12 ≤ R.locals)
    (k : ∀ T', Stand p l e R s m args below meth c T' locs cells slots → T'.heap = h → own_Goes p e below P (T'.setTop (mkF m (pc + 3) Ls rest))) :
    own_Goes p e below P (T.setTop (mkF m pc Ls (.ref a :: rest))) := by
  obtain ⟨T', X', e', st⟩ := initO X hx hZ hown w1 w2 w3 eT (g := mkF m pc Ls (.ref a :: rest)) rfl hsize rfl hd hf (W := W) hW hl
  exact own_by st (k T' X' e')
theorem own_putF (X : Stand p l e R s m args below meth c T locs cells slots) (hx : p.tables.exec = Jvm.exec) (hZ : Z.Warmed39 s.vm) {own O n d K : String} {index kk : Nat} {ty : FieldType} (hown : s.vm.findClass own = some m.cls) (w : (Cond.fieldLink own index O n d).before a0 Z = true)
    (eT : T.heap = h) {a : Addr} {v old : Value} (F : Fld Z h a O n d old) (E : Exa Z h a K) (L : (Cond.lays K O n d).before a0 Z = true ∨ ((Cond.laysFinal K O n d).before a0 Z = true ∧ own = O ∧ meth.name = "<init>")) (wi : (Cond.instantiable K kk).before a0 Z = true)
    (hty : parseFieldDescriptor d = some ty) (hn : narrow ty v = v) (hf : fits ty v = true) {pc : Nat} {Ls : Array Slot} {rest : List Value} (hd : decode c.code pc = .ok (.putfield index, 3))
    (k : ∀ T' h', Stand p l e R s m args below meth c T' (locs ++ [⟨a, Jvm.RoadKit.slotOf Z O n d⟩]) cells slots → T'.heap = h' → Wr h h' a (Jvm.RoadKit.slotOf Z O n d) v → own_Goes p e below P (T'.setTop (mkF m (pc + 3) Ls rest))) :
    own_Goes p e below P (T.setTop (mkF m pc Ls (v :: .ref a :: rest))) := by
  obtain ⟨T', h', X', e', W', st⟩ := putF X hx hZ hown (host := "") (Or.inl w) Via.refl eT F E L wi hty hn hf (g := mkF m pc Ls (v :: .ref a :: rest)) rfl rfl hd
  exact own_by st (k T' h' X' e' W')
theorem own_arr_new {a : Addr} {cA : ClassId} {ty : FieldType} {n : Int32} {i : Nat} (A : Arr Z h a (newA cA ty n) ty) (hn : n.toInt = i) : own_ArrF Z h a ty i (fun _ => defaultValue ty) := by
  have q : n.toNatClampNeg = i := own_clamp hn
  refine ⟨_, A, by rw [sz_new, q], ?_, fun j hj => ?_⟩
  · have := Int32.toInt_lt n; omega
  · simp [newA, q, hj]
theorem own_newR (X : Stand p l e R s m args below meth c T locs cells slots) (hx : p.tables.exec = Jvm.exec) (hZ : Z.Warmed39 s.vm) {own K : String} {index : Nat} (hown : s.vm.findClass own = some m.cls) (w1 : (Cond.classLink own index K).before a0 Z = true) (w2 : (Cond.arrayOver (.object K)).before a0 Z = true) (eT : T.heap = h)
    {pc : Nat} {Ls : Array Slot} {S : List Value} (hd : decode c.code pc = .ok (.anewarray index, 3)) {n : Int32} (i : Nat) (hi : n.toInt = i) (hb : i * 8 ≤ 536870912) (hc : cells + 1 ≤ R.cells) (hl : slots + i ≤ R.slots)
    (k : ∀ T' h' cA, Stand p l e R s m args below meth c T' locs (cells + 1) (slots + i) → T'.heap = h' → Ext h h' → Arr Z h' h.size (newA cA (.object K) n) (.object K) → Ovr Z cA K → own_Goes p e below P (T'.setTop (mkF m (pc + 3) Ls (.ref h.size :: S)))) :
    own_Goes p e below P (T.setTop (mkF m pc Ls (.int n :: S))) := by
  have q : n.toNatClampNeg = i := own_clamp hi
  have q2 : ¬ n < 0 := by rw [Int32.lt_iff_toInt_lt, hi]; have : (0 : Int32).toInt = 0 := rfl; omega
  obtain ⟨T', h', cA, X', e', E', A', O', st⟩ := newR X hx hZ hown w1 w2 eT (g := mkF m pc Ls (.int n :: S)) rfl hd rfl q2 (cap := i) (by omega) hb hc hl
  exact own_by st (k T' h' cA X' e' E' A' O')
theorem own_newP (X : Stand p l e R s m args below meth c T locs cells slots) (hx : p.tables.exec = Jvm.exec) (hZ : Z.Warmed39 s.vm) {aty : ArrayType} (w : (Cond.arrayClass (newarray.typeOf aty)).before a0 Z = true) (eT : T.heap = h)
    {pc : Nat} {Ls : Array Slot} {S : List Value} (hd : decode c.code pc = .ok (.newarray aty, 2)) {n : Int32} (i : Nat) (hi : n.toInt = i) (hb : i * 8 ≤ 536870912) (hc : cells + 1 ≤ R.cells) (hl : slots + i ≤ R.slots)
    (k : ∀ T' h', Stand p l e R s m args below meth c T' locs (cells + 1) (slots + i) → T'.heap = h' → Ext h h' → own_ArrF Z h' h.size (newarray.typeOf aty) i (fun _ => defaultValue (newarray.typeOf aty)) → own_Goes p e below P (T'.setTop (mkF m (pc + 2) Ls (.ref h.size :: S)))) :
    own_Goes p e below P (T.setTop (mkF m pc Ls (.int n :: S))) := by
  have q : n.toNatClampNeg = i := own_clamp hi
  have q2 : ¬ n < 0 := by rw [Int32.lt_iff_toInt_lt, hi]; have : (0 : Int32).toInt = 0 := rfl; omega
  obtain ⟨T', h', cA, X', e', E', A', st⟩ := newP X hx hZ w eT (g := mkF m pc Ls (.int n :: S)) rfl hd rfl q2 (cap := i) (by omega) hb hc hl
  exact own_by st (k T' h' X' e' E' (own_arr_new A' hi))
theorem own_stI (X : Stand p l e R s m args below meth c T locs cells slots) (hx : p.tables.exec = Jvm.exec) (hZ : Z.Warmed39 s.vm) (eT : T.heap = h) {a : Addr} {n : Nat} {f : Nat → Value} (F : own_ArrF Z h a .int n f) {j x : Int32} (i : Nat) (hj : j.toInt = i) (hi : i < n)
    {pc : Nat} {Ls : Array Slot} {S : List Value} (hd : decode c.code pc = .ok (.iastore, 1))
    (k : ∀ T' h', Stand p l e R s m args below meth c T' (locs ++ [⟨a, i⟩]) cells slots → T'.heap = h' → Wr h h' a i (.int x) → own_ArrF Z h' a .int n (fun q => if q = i then .int x else f q) → own_Goes p e below P (T'.setTop (mkF m (pc + 1) Ls S))) :
    own_Goes p e below P (T.setTop (mkF m pc Ls (.int x :: .int j :: .ref a :: S))) := by
  have F' := F
  obtain ⟨cell, h1, h2, h3, h4⟩ := F'
  have q := own_clamp hj
  obtain ⟨T', h', X', e', W', st⟩ := stI X hx hZ eT h1 (j := j) (x := x) (by rw [h2]; exact own_in hj hi) (g := mkF m pc Ls (.int x :: .int j :: .ref a :: S)) rfl rfl hd
  rw [q] at X' W'
  exact own_by st (k T' h' X' e' W' (F.set hi W'))
theorem own_stR (X : Stand p l e R s m args below meth c T locs cells slots) (hx : p.tables.exec = Jvm.exec) (hZ : Z.Warmed39 s.vm) (eT : T.heap = h) {a : Addr} {ty : FieldType} {n : Nat} {f : Nat → Value} (F : own_ArrF Z h a ty n f) (hty : ty.isReference = true) {v : Value} (hs : Sto Z h a v) {j : Int32} (i : Nat) (hj : j.toInt = i) (hi : i < n)
    {pc : Nat} {Ls : Array Slot} {S : List Value} (hd : decode c.code pc = .ok (.aastore, 1))
    (k : ∀ T' h', Stand p l e R s m args below meth c T' (locs ++ [⟨a, i⟩]) cells slots → T'.heap = h' → Wr h h' a i v → own_ArrF Z h' a ty n (fun q => if q = i then v else f q) → own_Goes p e below P (T'.setTop (mkF m (pc + 1) Ls S))) :
    own_Goes p e below P (T.setTop (mkF m pc Ls (v :: .int j :: .ref a :: S))) := by
  have F' := F
  obtain ⟨cell, h1, h2, h3, h4⟩ := F'
  have q := own_clamp hj
  obtain ⟨T', h', X', e', W', st⟩ := stR X hx hZ eT h1 (j := j) (v := v) (by rw [h2]; exact own_in hj hi) hty hs (g := mkF m pc Ls (v :: .int j :: .ref a :: S)) rfl rfl hd
  rw [q] at X' W'
  exact own_by st (k T' h' X' e' W' (F.set hi W'))
theorem own_Fr.snoc {k : Nat} {L : List Loc} {a : Addr} {i : Nat} (N : Fr k L) (q : k ≤ a) : Fr k (L ++ [⟨a, i⟩]) := N.app fun y hy => by cases List.mem_singleton.mp hy; exact q
/-- the first k components are filled -/
def own_pre (g : Nat → Value) (d : Value) (k : Nat) : Nat → Value := fun q => if q < k then g q else d
theorem own_pre_step (g : Nat → Value) (d : Value) (k : Nat) (q : Nat) : (if q = k then g k else own_pre g d k q) = own_pre g d (k + 1) q := by
  unfold own_pre
  by_cases h1 : q = k
  · subst h1; rw [if_pos rfl, if_pos (Nat.lt_succ_self _)]
  · rw [if_neg h1]
    by_cases h2 : q < k
    · rw [if_pos h2, if_pos (by omega)]
    · rw [if_neg h2, if_neg (by omega)]
theorem own_pre_all {g : Nat → Value} {d : Value} {n i : Nat} (hi : i < n) : own_pre g d n i = g i := if_pos hi
def own_ArrR (Z : State) (h : Heap) (a : Addr) (K : String) (n : Nat) (f : Nat → Value) : Prop := ∃ cell, Arr Z h a cell (.object K) ∧ Ovr Z cell.cls K ∧ cell.slots.size = n ∧ n < 2 ^ 31 ∧ ∀ i, i < n → cell.slots[i]? = some (f i)
theorem own_ArrR.toF {a : Addr} {K : String} {n : Nat} {f : Nat → Value} (F : own_ArrR Z h a K n f) : own_ArrF Z h a (.object K) n f := by
  obtain ⟨cell, h1, -, h2⟩ := F
  exact ⟨cell, h1, h2⟩
theorem own_ArrR.ext {h' : Heap} {a : Addr} {K : String} {n : Nat} {f : Nat → Value} (E : Ext h h') (F : own_ArrR Z h a K n f) : own_ArrR Z h' a K n f := by
  obtain ⟨cell, h1, h2⟩ := F
  exact ⟨cell, h1.ext E, h2⟩
theorem own_ArrR.keep {h' : Heap} {a : Addr} {K : String} {n : Nat} {f : Nat → Value} {b : Addr} {sl : Nat} {v : Value} (W : Wr h h' b sl v) (F : own_ArrR Z h a K n f) (hne : a ≠ b) : own_ArrR Z h' a K n f := by
  obtain ⟨cell, h1, h2⟩ := F
  exact ⟨cell, h1.other W hne, h2⟩
theorem own_ArrF.lt {a : Addr} {ty : FieldType} {n : Nat} {f : Nat → Value} (F : own_ArrF Z h a ty n f) : a < h.size := by
  obtain ⟨cell, h1, -⟩ := F
  exact h1.lt
theorem own_ArrR.lt {a : Addr} {K : String} {n : Nat} {f : Nat → Value} (F : own_ArrR Z h a K n f) : a < h.size := F.toF.lt
theorem own_newRp (g : Nat → Value) (X : Stand p l e R s m args below meth c T locs cells slots) (hx : p.tables.exec = Jvm.exec) (hZ : Z.Warmed39 s.vm) {own K : String} {index : Nat} (hown : s.vm.findClass own = some m.cls) (w1 : (Cond.classLink own index K).before a0 Z = true) (w2 : (Cond.arrayOver (.object K)).before a0 Z = true) (eT : T.heap = h)
    {pc : Nat} {Ls : Array Slot} {S : List Value} (hd : decode c.code pc = .ok (.anewarray index, 3)) {n : Int32} (i : Nat) (hi : n.toInt = i) (hb : i * 8 ≤ 536870912) (hc : cells + 1 ≤ R.cells) (hl : slots + i ≤ R.slots)
    (k : ∀ T' h', Stand p l e R s m args below meth c T' locs (cells + 1) (slots + i) → T'.heap = h' → Ext h h' → own_ArrR Z h' h.size K i (own_pre g .null 0) → own_Goes p e below P (T'.setTop (mkF m (pc + 3) Ls (.ref h.size :: S)))) :
    own_Goes p e below P (T.setTop (mkF m pc Ls (.int n :: S))) := by
  refine own_newR X hx hZ hown w1 w2 eT hd i hi hb hc hl fun T' h' cA X' e' E' A' O' => k T' h' X' e' E' ?_
  have q : n.toNatClampNeg = i := own_clamp hi
  refine ⟨_, A', O', by rw [sz_new, q], ?_, fun j hj => ?_⟩
  · have := Int32.toInt_lt n; omega
  · simp [newA, q, hj, own_pre, defaultValue]
theorem own_stRp (g : Nat → Value) (X : Stand p l e R s m args below meth c T locs cells slots) (hx : p.tables.exec = Jvm.exec) (hZ : Z.Warmed39 s.vm) (eT : T.heap = h) {a : Addr} {K : String} {n : Nat} {i : Nat} (F : own_ArrR Z h a K n (own_pre g .null i)) {v : Value} (hs : v = .null ∨ ∃ y, v = .ref y ∧ Exa Z h y K) (hv : v = g i) {j : Int32} (hj : j.toInt = i) (hi : i < n)
    {pc : Nat} {Ls : Array Slot} {S : List Value} (hd : decode c.code pc = .ok (.aastore, 1))
    (k : ∀ T' h', Stand p l e R s m args below meth c T' (locs ++ [⟨a, i⟩]) cells slots → T'.heap = h' → Wr h h' a i v → own_ArrR Z h' a K n (own_pre g .null (i + 1)) → own_Goes p e below P (T'.setTop (mkF m (pc + 1) Ls S))) :
    own_Goes p e below P (T.setTop (mkF m pc Ls (v :: .int j :: .ref a :: S))) := by
  have F' := F
  obtain ⟨cell, h1, hO, h2, h3, h4⟩ := F'
  have hst : Sto Z h a v := by
    rcases hs with rfl | ⟨y, rfl, Ey⟩
    · exact Or.inl rfl
    · exact Sto.of h1 hO (Ins.self Ey)
  refine own_stR X hx hZ eT F.toF rfl hst i hj hi hd fun T' h' X' e' W' F2 => k T' h' X' e' W' ?_
  refine ⟨cell.setSlot i v, h1.same W', hO, by simp [Cell.setSlot, h2], h3, fun q hq => ?_⟩
  rw [← own_pre_step, ← hv]
  by_cases z : q = i
  · subst z
    rw [if_pos rfl]
    simp [Cell.setSlot, h2, hq]
  · rw [if_neg z, ← h4 q hq]
    exact Array.getElem?_setIfInBounds_ne (Ne.symm z)
theorem own_newIp (g : Nat → Value) (X : Stand p l e R s m args below meth c T locs cells slots) (hx : p.tables.exec = Jvm.exec) (hZ : Z.Warmed39 s.vm) (w : (Cond.arrayClass .int).before a0 Z = true) (eT : T.heap = h)
    {pc : Nat} {Ls : Array Slot} {S : List Value} (hd : decode c.code pc = .ok (.newarray .int, 2)) {n : Int32} (i : Nat) (hi : n.toInt = i) (hb : i * 8 ≤ 536870912) (hc : cells + 1 ≤ R.cells) (hl : slots + i ≤ R.slots)
    (k : ∀ T' h', Stand p l e R s m args below meth c T' locs (cells + 1) (slots + i) → T'.heap = h' → Ext h h' → own_ArrF Z h' h.size .int i (own_pre g (.int 0) 0) → own_Goes p e below P (T'.setTop (mkF m (pc + 2) Ls (.ref h.size :: S)))) :
    own_Goes p e below P (T.setTop (mkF m pc Ls (.int n :: S))) :=
  own_newP X hx hZ (aty := .int) w eT hd i hi hb hc hl fun T' h' X' e' E' F => k T' h' X' e' E' (F.mono fun _ _ => rfl)
theorem own_stIp (g : Nat → Value) (X : Stand p l e R s m args below meth c T locs cells slots) (hx : p.tables.exec = Jvm.exec) (hZ : Z.Warmed39 s.vm) (eT : T.heap = h) {a : Addr} {n : Nat} {i : Nat} (F : own_ArrF Z h a .int n (own_pre g (.int 0) i)) {j x : Int32} (hv : .int x = g i) (hj : j.toInt = i) (hi : i < n)
    {pc : Nat} {Ls : Array Slot} {S : List Value} (hd : decode c.code pc = .ok (.iastore, 1))
    (k : ∀ T' h', Stand p l e R s m args below meth c T' (locs ++ [⟨a, i⟩]) cells slots → T'.heap = h' → Wr h h' a i (.int x) → own_ArrF Z h' a .int n (own_pre g (.int 0) (i + 1)) → own_Goes p e below P (T'.setTop (mkF m (pc + 1) Ls S))) :
    own_Goes p e below P (T.setTop (mkF m pc Ls (.int x :: .int j :: .ref a :: S))) :=
  own_stI X hx hZ eT F i hj hi hd fun T' h' X' e' W' F2 => k T' h' X' e' W' (F2.mono fun q _ => by rw [hv]; exact own_pre_step g (.int 0) i q)
/-! ints -/
theorem own_mask (x : Int32) : (x &&& 2147483647).toInt = x.toInt % 2 ^ 31 := Jvm.Kit.i32_mask x 2147483647 (k := 31) (by decide) (by decide)
theorem own_mod (x n : Int32) (M : Int) (hM : n.toInt = M) (hn : 0 < M) : 0 ≤ ((x &&& 2147483647) % n).toInt ∧ ((x &&& 2147483647) % n).toInt < M := by
  have h1 := own_mask x
  rw [Int32.toInt_mod]
  have h2 : 0 ≤ (x &&& 2147483647).toInt := by omega
  subst hM
  exact ⟨Int.tmod_nonneg _ h2, Int.tmod_lt_of_pos _ hn⟩
theorem own_mask2 (x : Int32) : 0 ≤ (x &&& 3).toInt ∧ (x &&& 3).toInt < 4 := by
  have h1 : (x &&& 3).toInt = x.toInt % 2 ^ 2 := Jvm.Kit.i32_mask x 3 (k := 2) (by decide) (by decide)
  omega
theorem own_mask3 (x : Int32) : 0 ≤ (x &&& 7).toInt ∧ (x &&& 7).toInt < 8 := by
  have h1 : (x &&& 7).toInt = x.toInt % 2 ^ 3 := Jvm.Kit.i32_mask x 7 (k := 3) (by decide) (by decide)
  omega
theorem own_eqInt {x y : Int32} (h : x.toInt = y.toInt) : x = y := Int32.toInt_inj.mp h
theorem own_nat {x : Int32} {n : Nat} (h0 : 0 ≤ x.toInt) (h1 : x.toInt < n) : ∃ i : Nat, i < n ∧ x.toInt = i := ⟨x.toInt.toNat, by omega, by omega⟩
end OwnKit

theorem own_pd0 : parseMethodDescriptor "(Ljava/lang/Enum;)I" = some ⟨[(.object "java/lang/Enum")], some .int⟩ := by decide +kernel
theorem own_pd1 : parseMethodDescriptor "(I)Lcom/example/rillgraph/rillgraph/engine/Numeric$Type;" = some ⟨[.int], some (.object "com/example/rillgraph/rillgraph/engine/Numeric$Type")⟩ := by decide +kernel
theorem own_pd2 : parseMethodDescriptor "()Z" = some ⟨[], some .boolean⟩ := by decide +kernel
theorem own_pd3 : parseMethodDescriptor "(Lcom/example/rillgraph/rillgraph/engine/Numeric$Type;Lcom/example/rillgraph/rillgraph/engine/Numeric$Type;)Lcom/example/rillgraph/rillgraph/engine/Numeric$Type;" = some ⟨[(.object "com/example/rillgraph/rillgraph/engine/Numeric$Type"), (.object "com/example/rillgraph/rillgraph/engine/Numeric$Type")], some (.object "com/example/rillgraph/rillgraph/engine/Numeric$Type")⟩ := by decide +kernel
theorem own_pn0 : plainName "com/example/rillgraph/rillgraph/engine/TypeIsExactPinLaw" = true := by first | (simp [plainName, overriddenIn]; done) | decide +kernel
theorem own_pn1 : plainName "com/example/rillgraph/rillgraph/engine/Numeric$Type" = true := by first | (simp [plainName, overriddenIn]; done) | decide +kernel
theorem own_pn2 : plainName "java/lang/Enum" = true := by first | (simp [plainName, overriddenIn]; done) | decide +kernel
theorem own_w0 {a0 : Array Value} {Z : State} (hw : ∀ d ∈ tables_1, d.before a0 Z = true) : (Jvm.Cond.methodLink "com/example/rillgraph/rillgraph/engine/TypeIsExactPinLaw" 22 (⟨"com/example/rillgraph/rillgraph/engine/TypeIsExactPinLaw", "pick", "(I)Lcom/example/rillgraph/rillgraph/engine/Numeric$Type;"⟩ : MethodName)).before a0 Z = true := hw _ (List.mem_of_getElem? (i := 0) rfl)
theorem own_w1 {a0 : Array Value} {Z : State} (hw : ∀ d ∈ tables_1, d.before a0 Z = true) : (Jvm.Cond.static (⟨"com/example/rillgraph/rillgraph/engine/TypeIsExactPinLaw", "pick", "(I)Lcom/example/rillgraph/rillgraph/engine/Numeric$Type;"⟩ : MethodName)).before a0 Z = true := hw _ (List.mem_of_getElem? (i := 1) rfl)
theorem own_w2 {a0 : Array Value} {Z : State} (hw : ∀ d ∈ tables_1, d.before a0 Z = true) : (Jvm.Cond.initialized "com/example/rillgraph/rillgraph/engine/TypeIsExactPinLaw").before a0 Z = true := hw _ (List.mem_of_getElem? (i := 2) rfl)
theorem own_w3 {a0 : Array Value} {Z : State} (hw : ∀ d ∈ tables_1, d.before a0 Z = true) : (Jvm.Cond.code (⟨"com/example/rillgraph/rillgraph/engine/TypeIsExactPinLaw", "pick", "(I)Lcom/example/rillgraph/rillgraph/engine/Numeric$Type;"⟩ : MethodName) method_2_code 2 (Option.some (FieldType.object "com/example/rillgraph/rillgraph/engine/Numeric$Type"))).before a0 Z = true := hw _ (List.mem_of_getElem? (i := 3) rfl)
theorem own_w4 {a0 : Array Value} {Z : State} (hw : ∀ d ∈ tables_1, d.before a0 Z = true) : (Jvm.Cond.fieldLink "com/example/rillgraph/rillgraph/engine/TypeIsExactPinLaw" 7 "com/example/rillgraph/rillgraph/engine/Numeric$Type" "INTEGER" "Lcom/example/rillgraph/rillgraph/engine/Numeric$Type;").before a0 Z = true := hw _ (List.mem_of_getElem? (i := 4) rfl)
theorem own_w5 {a0 : Array Value} {Z : State} (hw : ∀ d ∈ tables_1, d.before a0 Z = true) : (Jvm.Cond.initialized "com/example/rillgraph/rillgraph/engine/Numeric$Type").before a0 Z = true := hw _ (List.mem_of_getElem? (i := 5) rfl)
theorem own_w6 {a0 : Array Value} {Z : State} (hw : ∀ d ∈ tables_1, d.before a0 Z = true) : (Jvm.Cond.laysStatic "com/example/rillgraph/rillgraph/engine/Numeric$Type" "INTEGER" "Lcom/example/rillgraph/rillgraph/engine/Numeric$Type;").before a0 Z = true := hw _ (List.mem_of_getElem? (i := 6) rfl)
theorem own_w7 {a0 : Array Value} {Z : State} (hw : ∀ d ∈ tables_1, d.before a0 Z = true) : (Jvm.Cond.fieldLink "com/example/rillgraph/rillgraph/engine/TypeIsExactPinLaw" 19 "com/example/rillgraph/rillgraph/engine/Numeric$Type" "DOUBLE" "Lcom/example/rillgraph/rillgraph/engine/Numeric$Type;").before a0 Z = true := hw _ (List.mem_of_getElem? (i := 7) rfl)
theorem own_w8 {a0 : Array Value} {Z : State} (hw : ∀ d ∈ tables_1, d.before a0 Z = true) : (Jvm.Cond.laysStatic "com/example/rillgraph/rillgraph/engine/Numeric$Type" "DOUBLE" "Lcom/example/rillgraph/rillgraph/engine/Numeric$Type;").before a0 Z = true := hw _ (List.mem_of_getElem? (i := 8) rfl)
theorem own_w9 {a0 : Array Value} {Z : State} (hw : ∀ d ∈ tables_1, d.before a0 Z = true) : (Jvm.Cond.methodLink "com/example/rillgraph/rillgraph/engine/TypeIsExactPinLaw" 28 (⟨"com/example/rillgraph/rillgraph/engine/Numeric$Type", "isExact", "()Z"⟩ : MethodName)).before a0 Z = true := hw _ (List.mem_of_getElem? (i := 9) rfl)
theorem own_w10 {a0 : Array Value} {Z : State} (hw : ∀ d ∈ tables_1, d.before a0 Z = true) : (Jvm.Cond.declares (⟨"com/example/rillgraph/rillgraph/engine/Numeric$Type", "isExact", "()Z"⟩ : MethodName)).before a0 Z = true := hw _ (List.mem_of_getElem? (i := 10) rfl)
theorem own_w11 {a0 : Array Value} {Z : State} (hw : ∀ d ∈ tables_1, d.before a0 Z = true) : (Jvm.Cond.instanceMethod (⟨"com/example/rillgraph/rillgraph/engine/Numeric$Type", "isExact", "()Z"⟩ : MethodName)).before a0 Z = true := hw _ (List.mem_of_getElem? (i := 11) rfl)
theorem own_w12 {a0 : Array Value} {Z : State} (hw : ∀ d ∈ tables_1, d.before a0 Z = true) : (Jvm.Cond.selects "com/example/rillgraph/rillgraph/engine/Numeric$Type" (⟨"com/example/rillgraph/rillgraph/engine/Numeric$Type", "isExact", "()Z"⟩ : MethodName) (⟨"com/example/rillgraph/rillgraph/engine/Numeric$Type", "isExact", "()Z"⟩ : MethodName)).before a0 Z = true := hw _ (List.mem_of_getElem? (i := 12) rfl)
theorem own_w13 {a0 : Array Value} {Z : State} (hw : ∀ d ∈ tables_1, d.before a0 Z = true) : (Jvm.Cond.code (⟨"com/example/rillgraph/rillgraph/engine/Numeric$Type", "isExact", "()Z"⟩ : MethodName) prog_71_method_4_code 1 (Option.some FieldType.boolean)).before a0 Z = true := hw _ (List.mem_of_getElem? (i := 13) rfl)
theorem own_w14 {a0 : Array Value} {Z : State} (hw : ∀ d ∈ tables_1, d.before a0 Z = true) : (Jvm.Cond.fieldLink "com/example/rillgraph/rillgraph/engine/Numeric$Type" 3 "com/example/rillgraph/rillgraph/engine/Numeric$Type" "INTEGER" "Lcom/example/rillgraph/rillgraph/engine/Numeric$Type;").before a0 Z = true := hw _ (List.mem_of_getElem? (i := 14) rfl)
theorem own_w15 {a0 : Array Value} {Z : State} (hw : ∀ d ∈ tables_1, d.before a0 Z = true) : (Jvm.Cond.fieldLink "com/example/rillgraph/rillgraph/engine/Numeric$Type" 7 "com/example/rillgraph/rillgraph/engine/Numeric$Type" "DECIMAL" "Lcom/example/rillgraph/rillgraph/engine/Numeric$Type;").before a0 Z = true := hw _ (List.mem_of_getElem? (i := 15) rfl)
theorem own_w16 {a0 : Array Value} {Z : State} (hw : ∀ d ∈ tables_1, d.before a0 Z = true) : (Jvm.Cond.laysStatic "com/example/rillgraph/rillgraph/engine/Numeric$Type" "DECIMAL" "Lcom/example/rillgraph/rillgraph/engine/Numeric$Type;").before a0 Z = true := hw _ (List.mem_of_getElem? (i := 16) rfl)
theorem own_w17 {a0 : Array Value} {Z : State} (hw : ∀ d ∈ tables_1, d.before a0 Z = true) : (Jvm.Cond.methodLink "com/example/rillgraph/rillgraph/engine/TypeIsExactPinLaw" 32 (⟨"com/example/rillgraph/rillgraph/engine/Numeric$Type", "wider", "(Lcom/example/rillgraph/rillgraph/engine/Numeric$Type;Lcom/example/rillgraph/rillgraph/engine/Numeric$Type;)Lcom/example/rillgraph/rillgraph/engine/Numeric$Type;"⟩ : MethodName)).before a0 Z = true := hw _ (List.mem_of_getElem? (i := 17) rfl)
theorem own_w18 {a0 : Array Value} {Z : State} (hw : ∀ d ∈ tables_1, d.before a0 Z = true) : (Jvm.Cond.static (⟨"com/example/rillgraph/rillgraph/engine/Numeric$Type", "wider", "(Lcom/example/rillgraph/rillgraph/engine/Numeric$Type;Lcom/example/rillgraph/rillgraph/engine/Numeric$Type;)Lcom/example/rillgraph/rillgraph/engine/Numeric$Type;"⟩ : MethodName)).before a0 Z = true := hw _ (List.mem_of_getElem? (i := 18) rfl)
theorem own_w19 {a0 : Array Value} {Z : State} (hw : ∀ d ∈ tables_1, d.before a0 Z = true) : (Jvm.Cond.code (⟨"com/example/rillgraph/rillgraph/engine/Numeric$Type", "wider", "(Lcom/example/rillgraph/rillgraph/engine/Numeric$Type;Lcom/example/rillgraph/rillgraph/engine/Numeric$Type;)Lcom/example/rillgraph/rillgraph/engine/Numeric$Type;"⟩ : MethodName) prog_71_method_5_code 2 (Option.some (FieldType.object "com/example/rillgraph/rillgraph/engine/Numeric$Type"))).before a0 Z = true := hw _ (List.mem_of_getElem? (i := 19) rfl)
theorem own_w20 {a0 : Array Value} {Z : State} (hw : ∀ d ∈ tables_1, d.before a0 Z = true) : (Jvm.Cond.methodLink "com/example/rillgraph/rillgraph/engine/Numeric$Type" 39 (⟨"com/example/rillgraph/rillgraph/engine/Numeric$Type", "compareTo", "(Ljava/lang/Enum;)I"⟩ : MethodName)).before a0 Z = true := hw _ (List.mem_of_getElem? (i := 20) rfl)
theorem own_w21 {a0 : Array Value} {Z : State} (hw : ∀ d ∈ tables_1, d.before a0 Z = true) : (Jvm.Cond.sameMethod "com/example/rillgraph/rillgraph/engine/Numeric$Type" "java/lang/Enum" "compareTo" "(Ljava/lang/Enum;)I").before a0 Z = true := hw _ (List.mem_of_getElem? (i := 21) rfl)
theorem own_w22 {a0 : Array Value} {Z : State} (hw : ∀ d ∈ tables_1, d.before a0 Z = true) : (Jvm.Cond.declares (⟨"java/lang/Enum", "compareTo", "(Ljava/lang/Enum;)I"⟩ : MethodName)).before a0 Z = true := hw _ (List.mem_of_getElem? (i := 22) rfl)
theorem own_w23 {a0 : Array Value} {Z : State} (hw : ∀ d ∈ tables_1, d.before a0 Z = true) : (Jvm.Cond.instanceMethod (⟨"java/lang/Enum", "compareTo", "(Ljava/lang/Enum;)I"⟩ : MethodName)).before a0 Z = true := hw _ (List.mem_of_getElem? (i := 23) rfl)
theorem own_w24 {a0 : Array Value} {Z : State} (hw : ∀ d ∈ tables_1, d.before a0 Z = true) : (Jvm.Cond.selects "com/example/rillgraph/rillgraph/engine/Numeric$Type" (⟨"com/example/rillgraph/rillgraph/engine/Numeric$Type", "compareTo", "(Ljava/lang/Enum;)I"⟩ : MethodName) (⟨"java/lang/Enum", "compareTo", "(Ljava/lang/Enum;)I"⟩ : MethodName)).before a0 Z = true := hw _ (List.mem_of_getElem? (i := 24) rfl)
theorem own_w25 {a0 : Array Value} {Z : State} (hw : ∀ d ∈ tables_1, d.before a0 Z = true) : (Jvm.Cond.initialized "java/lang/Enum").before a0 Z = true := hw _ (List.mem_of_getElem? (i := 25) rfl)
theorem own_w26 {a0 : Array Value} {Z : State} (hw : ∀ d ∈ tables_1, d.before a0 Z = true) : (Jvm.Cond.code (⟨"java/lang/Enum", "compareTo", "(Ljava/lang/Enum;)I"⟩ : MethodName) jdk_37_method_8_code 4 (Option.some FieldType.int)).before a0 Z = true := hw _ (List.mem_of_getElem? (i := 26) rfl)
theorem own_w27 {a0 : Array Value} {Z : State} (hw : ∀ d ∈ tables_1, d.before a0 Z = true) : (Jvm.Cond.methodLink "java/lang/Enum" 29 (⟨"java/lang/Object", "getClass", "()Ljava/lang/Class;"⟩ : MethodName)).before a0 Z = true := hw _ (List.mem_of_getElem? (i := 27) rfl)
theorem own_w28 {a0 : Array Value} {Z : State} (hw : ∀ d ∈ tables_1, d.before a0 Z = true) : (Jvm.Cond.declares (⟨"java/lang/Object", "getClass", "()Ljava/lang/Class;"⟩ : MethodName)).before a0 Z = true := hw _ (List.mem_of_getElem? (i := 28) rfl)
theorem own_w29 {a0 : Array Value} {Z : State} (hw : ∀ d ∈ tables_1, d.before a0 Z = true) : (Jvm.Cond.instanceMethod (⟨"java/lang/Object", "getClass", "()Ljava/lang/Class;"⟩ : MethodName)).before a0 Z = true := hw _ (List.mem_of_getElem? (i := 29) rfl)
theorem own_w30 {a0 : Array Value} {Z : State} (hw : ∀ d ∈ tables_1, d.before a0 Z = true) : (Jvm.Cond.selects "com/example/rillgraph/rillgraph/engine/Numeric$Type" (⟨"java/lang/Object", "getClass", "()Ljava/lang/Class;"⟩ : MethodName) (⟨"java/lang/Object", "getClass", "()Ljava/lang/Class;"⟩ : MethodName)).before a0 Z = true := hw _ (List.mem_of_getElem? (i := 30) rfl)
theorem own_w31 {a0 : Array Value} {Z : State} (hw : ∀ d ∈ tables_1, d.before a0 Z = true) : (Jvm.Cond.native (⟨"java/lang/Object", "getClass", "()Ljava/lang/Class;"⟩ : MethodName)).before a0 Z = true := hw _ (List.mem_of_getElem? (i := 31) rfl)
theorem own_w33 {a0 : Array Value} {Z : State} (hw : ∀ d ∈ tables_1, d.before a0 Z = true) : (Jvm.Cond.fieldLink "java/lang/Enum" 7 "java/lang/Enum" "ordinal" "I").before a0 Z = true := hw _ (List.mem_of_getElem? (i := 33) rfl)
theorem own_w35 {a0 : Array Value} {Z : State} (hw : ∀ d ∈ tables_1, d.before a0 Z = true) : (Jvm.Cond.fieldLink "com/example/rillgraph/rillgraph/engine/TypeIsExactPinLaw" 16 "com/example/rillgraph/rillgraph/engine/Numeric$Type" "FLOAT" "Lcom/example/rillgraph/rillgraph/engine/Numeric$Type;").before a0 Z = true := hw _ (List.mem_of_getElem? (i := 35) rfl)
theorem own_w36 {a0 : Array Value} {Z : State} (hw : ∀ d ∈ tables_1, d.before a0 Z = true) : (Jvm.Cond.laysStatic "com/example/rillgraph/rillgraph/engine/Numeric$Type" "FLOAT" "Lcom/example/rillgraph/rillgraph/engine/Numeric$Type;").before a0 Z = true := hw _ (List.mem_of_getElem? (i := 36) rfl)
theorem own_w37 {a0 : Array Value} {Z : State} (hw : ∀ d ∈ tables_1, d.before a0 Z = true) : (Jvm.Cond.fieldLink "com/example/rillgraph/rillgraph/engine/TypeIsExactPinLaw" 13 "com/example/rillgraph/rillgraph/engine/Numeric$Type" "DECIMAL" "Lcom/example/rillgraph/rillgraph/engine/Numeric$Type;").before a0 Z = true := hw _ (List.mem_of_getElem? (i := 37) rfl)
def own_W (Z : State) (h : Heap) (A : Nat → Addr) : Prop :=
  Sta Z h "com/example/rillgraph/rillgraph/engine/Numeric$Type" "INTEGER" "Lcom/example/rillgraph/rillgraph/engine/Numeric$Type;" (.ref (A 0)) ∧
  Exa Z h (A 0) "com/example/rillgraph/rillgraph/engine/Numeric$Type" ∧
  Sta Z h "com/example/rillgraph/rillgraph/engine/Numeric$Type" "DOUBLE" "Lcom/example/rillgraph/rillgraph/engine/Numeric$Type;" (.ref (A 1)) ∧
  Exa Z h (A 1) "com/example/rillgraph/rillgraph/engine/Numeric$Type" ∧
  Sta Z h "com/example/rillgraph/rillgraph/engine/Numeric$Type" "DECIMAL" "Lcom/example/rillgraph/rillgraph/engine/Numeric$Type;" (.ref (A 2)) ∧
  Exa Z h (A 2) "com/example/rillgraph/rillgraph/engine/Numeric$Type" ∧
  Sta Z h "com/example/rillgraph/rillgraph/engine/Numeric$Type" "FLOAT" "Lcom/example/rillgraph/rillgraph/engine/Numeric$Type;" (.ref (A 3)) ∧
  Exa Z h (A 3) "com/example/rillgraph/rillgraph/engine/Numeric$Type" ∧
  Fld Z h (A 1) "java/lang/Enum" "ordinal" "I" (.int (3 : Int32)) ∧
  Fld Z h (A 0) "java/lang/Enum" "ordinal" "I" (.int (0 : Int32)) ∧
  Fld Z h (A 2) "java/lang/Enum" "ordinal" "I" (.int (1 : Int32)) ∧
  Fld Z h (A 3) "java/lang/Enum" "ordinal" "I" (.int (2 : Int32))
theorem own_f0 {Z : State} {h : Heap} {A : Nat → Addr} (W : own_W Z h A) : Sta Z h "com/example/rillgraph/rillgraph/engine/Numeric$Type" "INTEGER" "Lcom/example/rillgraph/rillgraph/engine/Numeric$Type;" (.ref (A 0)) := W.1
theorem own_f1 {Z : State} {h : Heap} {A : Nat → Addr} (W : own_W Z h A) : Exa Z h (A 0) "com/example/rillgraph/rillgraph/engine/Numeric$Type" := W.2.1
theorem own_f2 {Z : State} {h : Heap} {A : Nat → Addr} (W : own_W Z h A) : Sta Z h "com/example/rillgraph/rillgraph/engine/Numeric$Type" "DOUBLE" "Lcom/example/rillgraph/rillgraph/engine/Numeric$Type;" (.ref (A 1)) := W.2.2.1
theorem own_f3 {Z : State} {h : Heap} {A : Nat → Addr} (W : own_W Z h A) : Exa Z h (A 1) "com/example/rillgraph/rillgraph/engine/Numeric$Type" := W.2.2.2.1
theorem own_f4 {Z : State} {h : Heap} {A : Nat → Addr} (W : own_W Z h A) : Sta Z h "com/example/rillgraph/rillgraph/engine/Numeric$Type" "DECIMAL" "Lcom/example/rillgraph/rillgraph/engine/Numeric$Type;" (.ref (A 2)) := W.2.2.2.2.1
theorem own_f5 {Z : State} {h : Heap} {A : Nat → Addr} (W : own_W Z h A) : Exa Z h (A 2) "com/example/rillgraph/rillgraph/engine/Numeric$Type" := W.2.2.2.2.2.1
theorem own_f6 {Z : State} {h : Heap} {A : Nat → Addr} (W : own_W Z h A) : Sta Z h "com/example/rillgraph/rillgraph/engine/Numeric$Type" "FLOAT" "Lcom/example/rillgraph/rillgraph/engine/Numeric$Type;" (.ref (A 3)) := W.2.2.2.2.2.2.1
theorem own_f7 {Z : State} {h : Heap} {A : Nat → Addr} (W : own_W Z h A) : Exa Z h (A 3) "com/example/rillgraph/rillgraph/engine/Numeric$Type" := W.2.2.2.2.2.2.2.1
theorem own_f8 {Z : State} {h : Heap} {A : Nat → Addr} (W : own_W Z h A) : Fld Z h (A 1) "java/lang/Enum" "ordinal" "I" (.int (3 : Int32)) := W.2.2.2.2.2.2.2.2.1
theorem own_f9 {Z : State} {h : Heap} {A : Nat → Addr} (W : own_W Z h A) : Fld Z h (A 0) "java/lang/Enum" "ordinal" "I" (.int (0 : Int32)) := W.2.2.2.2.2.2.2.2.2.1
theorem own_f10 {Z : State} {h : Heap} {A : Nat → Addr} (W : own_W Z h A) : Fld Z h (A 2) "java/lang/Enum" "ordinal" "I" (.int (1 : Int32)) := W.2.2.2.2.2.2.2.2.2.2.1
theorem own_f11 {Z : State} {h : Heap} {A : Nat → Addr} (W : own_W Z h A) : Fld Z h (A 3) "java/lang/Enum" "ordinal" "I" (.int (2 : Int32)) := W.2.2.2.2.2.2.2.2.2.2.2
theorem own_Wext {Z : State} {h h' : Heap} {A : Nat → Addr} (W : own_W Z h A) (E : Ext h h') : own_W Z h' A := ⟨(own_f0 W).ext E, (own_f1 W).ext E, (own_f2 W).ext E, (own_f3 W).ext E, (own_f4 W).ext E, (own_f5 W).ext E, (own_f6 W).ext E, (own_f7 W).ext E, (own_f8 W).ext E, (own_f9 W).ext E, (own_f10 W).ext E, (own_f11 W).ext E⟩
theorem own_world {s : State} {args : Array Value} (hw : ∀ d ∈ tables_1, d.before args s = true) (hn : narrow_1.value args s none s [] = some true) : ∃ A : Nat → Addr, own_W s s.heap A := by
  obtain ⟨n0, r0⟩ := and_e hn
  obtain ⟨n1, r1⟩ := and_e r0
  obtain ⟨n2, r2⟩ := and_e r1
  obtain ⟨n3, r3⟩ := and_e r2
  obtain ⟨n4, r4⟩ := and_e r3
  obtain ⟨n5, r5⟩ := and_e r4
  obtain ⟨n6, r6⟩ := and_e r5
  obtain ⟨a0, v0⟩ := exa_v n0
  obtain ⟨a1, v1⟩ := exa_v n1
  obtain ⟨a2, v2⟩ := exa_v n4
  obtain ⟨a3, v3⟩ := exa_v n6
  exact ⟨fun n => [a0, a1, a2, a3].getD n 0, Sta.start v0 (Or.inr ⟨(own_w5 hw), (own_w6 hw)⟩), Exa.start v0 n0, Sta.start v1 (Or.inr ⟨(own_w5 hw), (own_w8 hw)⟩), Exa.start v1 n1, Sta.start v2 (Or.inr ⟨(own_w5 hw), (own_w16 hw)⟩), Exa.start v2 n4, Sta.start v3 (Or.inr ⟨(own_w5 hw), (own_w36 hw)⟩), Exa.start v3 n6, own_fld v1 (own_eqI n2), own_fld v0 (own_eqI n3), own_fld v2 (own_eqI n5), own_fld v3 (own_eqI r6)⟩
theorem own_d1_0 : decode method_2_code 0 = .ok (.iload_n 0, 1) := by decide +kernel
theorem own_d1_1 : decode method_2_code 1 = .ok (.iconst 3, 1) := by decide +kernel
theorem own_d1_2 : decode method_2_code 2 = .ok (.iand, 1) := by decide +kernel
theorem own_d1_3 : decode method_2_code 3 = .ok (.istore_n 1, 1) := by decide +kernel
theorem own_d1_4 : decode method_2_code 4 = .ok (.iload_n 1, 1) := by decide +kernel
theorem own_d1_5 : decode method_2_code 5 = .ok (.ifCond .ne 7, 3) := by decide +kernel
theorem own_d1_8 : decode method_2_code 8 = .ok (.getstatic 7, 3) := by decide +kernel
theorem own_d1_11 : decode method_2_code 11 = .ok (.areturn, 1) := by decide +kernel
theorem own_d1_12 : decode method_2_code 12 = .ok (.iload_n 1, 1) := by decide +kernel
theorem own_d1_13 : decode method_2_code 13 = .ok (.iconst 1, 1) := by decide +kernel
theorem own_d1_14 : decode method_2_code 14 = .ok (.if_icmp .ne 7, 3) := by decide +kernel
theorem own_d1_17 : decode method_2_code 17 = .ok (.getstatic 13, 3) := by decide +kernel
theorem own_d1_20 : decode method_2_code 20 = .ok (.areturn, 1) := by decide +kernel
theorem own_d1_21 : decode method_2_code 21 = .ok (.iload_n 1, 1) := by decide +kernel
theorem own_d1_22 : decode method_2_code 22 = .ok (.iconst 2, 1) := by decide +kernel
theorem own_d1_23 : decode method_2_code 23 = .ok (.if_icmp .ne 7, 3) := by decide +kernel
theorem own_d1_26 : decode method_2_code 26 = .ok (.getstatic 16, 3) := by decide +kernel
theorem own_d1_29 : decode method_2_code 29 = .ok (.areturn, 1) := by decide +kernel
theorem own_d1_30 : decode method_2_code 30 = .ok (.getstatic 19, 3) := by decide +kernel
theorem own_d1_33 : decode method_2_code 33 = .ok (.areturn, 1) := by decide +kernel
def own_r_pick (A : Nat → Addr) (k : Int32) : Addr := if (k &&& (3 : Int32)) = 0 then (A 0) else if (k &&& (3 : Int32)) = (1 : Int32) then (A 2) else if (k &&& (3 : Int32)) = (2 : Int32) then (A 3) else (A 1)
set_option maxRecDepth 65536 in
set_option maxHeartbeats 40000000 in
theorem rm_pick (l : Launch) {Z : State} {a0 : Array Value} (hw : ∀ d ∈ tables_1, d.before a0 Z = true) {A : Nat → Addr} {h0 : Heap} (W : own_W Z h0 A) (k : Int32)  :
    own_Does l Z (⟨"com/example/rillgraph/rillgraph/engine/TypeIsExactPinLaw", "pick", "(I)Lcom/example/rillgraph/rillgraph/engine/Numeric$Type;"⟩ : MethodName) method_2_code 2 (some (.object "com/example/rillgraph/rillgraph/engine/Numeric$Type")) [] ({ frames := 0, cells := 0, slots := 0, locals := 0 } : Room) #[(.int k)] h0 (own_Is (.ref (own_r_pick A k)) h0) := by
  refine own_body own_pn0 ?_
  intro p e s m below meth c T0 hx hby hml hret hlk hnm hown hZ X0 e0
  refine own_tr (XT.entry (Ls := #[.val (.int k), .unset]) rfl) ?_
  show own_Goes p e below _ (T0.setTop (mkF m 0 #[.val (.int k), .unset] []))
  refine own_by (fun _ zz => XS.iloadN X0.here hx rfl (hb hby own_d1_0) rfl zz) ?_
  show own_Goes p e below _ (T0.setTop (mkF m 1 #[.val (.int k), .unset] [(.int k)]))
  refine own_by (fun _ zz => XS.iconst X0.here hx rfl (hb hby own_d1_1) zz) ?_
  show own_Goes p e below _ (T0.setTop (mkF m 2 #[.val (.int k), .unset] [(.int (3 : Int32)), (.int k)]))
  refine own_by (fun _ zz => XS.iand X0.here hx rfl (hb hby own_d1_2) rfl zz) ?_
  show own_Goes p e below _ (T0.setTop (mkF m 3 #[.val (.int k), .unset] [(.int (k &&& (3 : Int32)))]))
  refine own_by (fun _ zz => XS.istoreN X0.here hx rfl (hb hby own_d1_3) rfl (l' := #[.val (.int k), .val (.int (k &&& (3 : Int32)))]) rfl zz) ?_
  show own_Goes p e below _ (T0.setTop (mkF m 4 #[.val (.int k), .val (.int (k &&& (3 : Int32)))] []))
  refine own_by (fun _ zz => XS.iloadN X0.here hx rfl (hb hby own_d1_4) rfl zz) ?_
  show own_Goes p e below _ (T0.setTop (mkF m 5 #[.val (.int k), .val (.int (k &&& (3 : Int32)))] [(.int (k &&& (3 : Int32)))]))
  by_cases q1 : (k &&& (3 : Int32)) = 0
  · refine own_by (fun _ zz => XS.ifNo X0.here hx rfl (hb hby own_d1_5) rfl (XT.i0_ne_f q1) zz) ?_
    show own_Goes p e below _ (T0.setTop (mkF m 8 #[.val (.int k), .val (.int (k &&& (3 : Int32)))] []))
    refine own_getS X0 hx hZ hown (own_w4 hw) e0 (own_f0 W) (hb hby own_d1_8) fun T2 X2 e2 => ?_
    show own_Goes p e below _ (T2.setTop (mkF m 11 #[.val (.int k), .val (.int (k &&& (3 : Int32)))] [(.ref (A 0))]))
    refine own_retR X2 hx hlk hret rfl rfl rfl (hb hby own_d1_11) (by decide) (by decide) ?_
    exact ⟨by unfold own_r_pick; rw [if_pos q1] <;> rfl, rfl, e2⟩
  · refine own_by (fun _ zz => XS.ifYes X0.here hx rfl (pc0 := 5) (pc' := 12) rfl (hb hby own_d1_5) rfl (XT.i0_ne_t q1) (by decide) (by decide) zz) ?_
    show own_Goes p e below _ (T0.setTop (mkF m 12 #[.val (.int k), .val (.int (k &&& (3 : Int32)))] []))
    refine own_by (fun _ zz => XS.iloadN X0.here hx rfl (hb hby own_d1_12) rfl zz) ?_
    show own_Goes p e below _ (T0.setTop (mkF m 13 #[.val (.int k), .val (.int (k &&& (3 : Int32)))] [(.int (k &&& (3 : Int32)))]))
    refine own_by (fun _ zz => XS.iconst X0.here hx rfl (hb hby own_d1_13) zz) ?_
    show own_Goes p e below _ (T0.setTop (mkF m 14 #[.val (.int k), .val (.int (k &&& (3 : Int32)))] [(.int (1 : Int32)), (.int (k &&& (3 : Int32)))]))
    by_cases q3 : (k &&& (3 : Int32)) = (1 : Int32)
    · refine own_by (fun _ zz => XS.icmpNo X0.here hx rfl (hb hby own_d1_14) rfl (XT.ii_ne_f q3) zz) ?_
      show own_Goes p e below _ (T0.setTop (mkF m 17 #[.val (.int k), .val (.int (k &&& (3 : Int32)))] []))
      refine own_getS X0 hx hZ hown (own_w37 hw) e0 (own_f4 W) (hb hby own_d1_17) fun T4 X4 e4 => ?_
      show own_Goes p e below _ (T4.setTop (mkF m 20 #[.val (.int k), .val (.int (k &&& (3 : Int32)))] [(.ref (A 2))]))
      refine own_retR X4 hx hlk hret rfl rfl rfl (hb hby own_d1_20) (by decide) (by decide) ?_
      exact ⟨by unfold own_r_pick; rw [if_neg q1, if_pos q3] <;> rfl, rfl, e4⟩
    · refine own_by (fun _ zz => XS.icmpYes X0.here hx rfl (pc0 := 14) (pc' := 21) rfl (hb hby own_d1_14) rfl (XT.ii_ne_t q3) (by decide) (by decide) zz) ?_
      show own_Goes p e below _ (T0.setTop (mkF m 21 #[.val (.int k), .val (.int (k &&& (3 : Int32)))] []))
      refine own_by (fun _ zz => XS.iloadN X0.here hx rfl (hb hby own_d1_21) rfl zz) ?_
      show own_Goes p e below _ (T0.setTop (mkF m 22 #[.val (.int k), .val (.int (k &&& (3 : Int32)))] [(.int (k &&& (3 : Int32)))]))
      refine own_by (fun _ zz => XS.iconst X0.here hx rfl (hb hby own_d1_22) zz) ?_
      show own_Goes p e below _ (T0.setTop (mkF m 23 #[.val (.int k), .val (.int (k &&& (3 : Int32)))] [(.int (2 : Int32)), (.int (k &&& (3 : Int32)))]))
      by_cases q5 : (k &&& (3 : Int32)) = (2 : Int32)
      · refine own_by (fun _ zz => XS.icmpNo X0.here hx rfl (hb hby own_d1_23) rfl (XT.ii_ne_f q5) zz) ?_
        show own_Goes p e below _ (T0.setTop (mkF m 26 #[.val (.int k), .val (.int (k &&& (3 : Int32)))] []))
        refine own_getS X0 hx hZ hown (own_w35 hw) e0 (own_f6 W) (hb hby own_d1_26) fun T6 X6 e6 => ?_
        show own_Goes p e below _ (T6.setTop (mkF m 29 #[.val (.int k), .val (.int (k &&& (3 : Int32)))] [(.ref (A 3))]))
        refine own_retR X6 hx hlk hret rfl rfl rfl (hb hby own_d1_29) (by decide) (by decide) ?_
        exact ⟨by unfold own_r_pick; rw [if_neg q1, if_neg q3, if_pos q5] <;> rfl, rfl, e6⟩
      · refine own_by (fun _ zz => XS.icmpYes X0.here hx rfl (pc0 := 23) (pc' := 30) rfl (hb hby own_d1_23) rfl (XT.ii_ne_t q5) (by decide) (by decide) zz) ?_
        show own_Goes p e below _ (T0.setTop (mkF m 30 #[.val (.int k), .val (.int (k &&& (3 : Int32)))] []))
        refine own_getS X0 hx hZ hown (own_w7 hw) e0 (own_f2 W) (hb hby own_d1_30) fun T7 X7 e7 => ?_
        show own_Goes p e below _ (T7.setTop (mkF m 33 #[.val (.int k), .val (.int (k &&& (3 : Int32)))] [(.ref (A 1))]))
        refine own_retR X7 hx hlk hret rfl rfl rfl (hb hby own_d1_33) (by decide) (by decide) ?_
        exact ⟨by unfold own_r_pick; rw [if_neg q1, if_neg q3, if_neg q5] <;> rfl, rfl, e7⟩
theorem own_d2_0 : decode prog_71_method_4_code 0 = .ok (.aload_n 0, 1) := by decide +kernel
theorem own_d2_1 : decode prog_71_method_4_code 1 = .ok (.getstatic 3, 3) := by decide +kernel
theorem own_d2_4 : decode prog_71_method_4_code 4 = .ok (.if_acmp .eq 10, 3) := by decide +kernel
theorem own_d2_7 : decode prog_71_method_4_code 7 = .ok (.aload_n 0, 1) := by decide +kernel
theorem own_d2_8 : decode prog_71_method_4_code 8 = .ok (.getstatic 7, 3) := by decide +kernel
theorem own_d2_11 : decode prog_71_method_4_code 11 = .ok (.if_acmp .ne 7, 3) := by decide +kernel
theorem own_d2_14 : decode prog_71_method_4_code 14 = .ok (.iconst 1, 1) := by decide +kernel
theorem own_d2_15 : decode prog_71_method_4_code 15 = .ok (.goto 4, 3) := by decide +kernel
theorem own_d2_18 : decode prog_71_method_4_code 18 = .ok (.iconst 0, 1) := by decide +kernel
theorem own_d2_19 : decode prog_71_method_4_code 19 = .ok (.ireturn, 1) := by decide +kernel
def own_r_isExact (A : Nat → Addr) (b : Addr) : Int32 := if b = (A 0) then (1 : Int32) else if b = (A 2) then (1 : Int32) else (0 : Int32)
set_option maxRecDepth 65536 in
set_option maxHeartbeats 40000000 in
theorem rm_isExact (l : Launch) {Z : State} {a0 : Array Value} (hw : ∀ d ∈ tables_1, d.before a0 Z = true) {A : Nat → Addr} {h0 : Heap} (W : own_W Z h0 A) (b : Addr)  :
    own_Does l Z (⟨"com/example/rillgraph/rillgraph/engine/Numeric$Type", "isExact", "()Z"⟩ : MethodName) prog_71_method_4_code 1 (some .boolean) [] ({ frames := 0, cells := 0, slots := 0, locals := 0 } : Room) #[(.ref b)] h0 (own_Is (.int (own_r_isExact A b)) h0) := by
  refine own_body own_pn1 ?_
  intro p e s m below meth c T0 hx hby hml hret hlk hnm hown hZ X0 e0
  refine own_tr (XT.entry (Ls := #[.val (.ref b)]) rfl) ?_
  show own_Goes p e below _ (T0.setTop (mkF m 0 #[.val (.ref b)] []))
  refine own_by (fun _ zz => XS.aloadN X0.here hx rfl (hb hby own_d2_0) rfl rfl zz) ?_
  show own_Goes p e below _ (T0.setTop (mkF m 1 #[.val (.ref b)] [(.ref b)]))
  refine own_getS X0 hx hZ hown (own_w14 hw) e0 (own_f0 W) (hb hby own_d2_1) fun T1 X1 e1 => ?_
  show own_Goes p e below _ (T1.setTop (mkF m 4 #[.val (.ref b)] [(.ref (A 0)), (.ref b)]))
  by_cases q2 : b = (A 0)
  · refine own_by (fun _ zz => XT.acmpYes X1.here hx rfl (pc0 := 4) (pc' := 14) rfl (hb hby own_d2_4) rfl rfl rfl (XT.aa_eq_t (congrArg Value.ref q2)) (by decide) (by decide) zz) ?_
    show own_Goes p e below _ (T1.setTop (mkF m 14 #[.val (.ref b)] []))
    refine own_by (fun _ zz => XS.iconst X1.here hx rfl (hb hby own_d2_14) zz) ?_
    show own_Goes p e below _ (T1.setTop (mkF m 15 #[.val (.ref b)] [(.int (1 : Int32))]))
    refine own_by (fun _ zz => XS.goto X1.here hx rfl (pc0 := 15) (pc' := 19) rfl (hb hby own_d2_15) (by decide) (by decide) zz) ?_
    show own_Goes p e below _ (T1.setTop (mkF m 19 #[.val (.ref b)] [(.int (1 : Int32))]))
    refine own_retN X1 hx hlk (ty := .boolean) hret (by simp) (hb hby own_d2_19) (by decide) (by decide) ?_
    exact ⟨by unfold own_r_isExact; rw [if_pos q2] <;> rfl, rfl, e1⟩
  · refine own_by (fun _ zz => XT.acmpNo X1.here hx rfl (hb hby own_d2_4) rfl rfl rfl (XT.aa_eq_f (fun q => q2 (Value.ref.inj q))) zz) ?_
    show own_Goes p e below _ (T1.setTop (mkF m 7 #[.val (.ref b)] []))
    refine own_by (fun _ zz => XS.aloadN X1.here hx rfl (hb hby own_d2_7) rfl rfl zz) ?_
    show own_Goes p e below _ (T1.setTop (mkF m 8 #[.val (.ref b)] [(.ref b)]))
    refine own_getS X1 hx hZ hown (own_w15 hw) e1 (own_f4 W) (hb hby own_d2_8) fun T3 X3 e3 => ?_
    show own_Goes p e below _ (T3.setTop (mkF m 11 #[.val (.ref b)] [(.ref (A 2)), (.ref b)]))
    by_cases q4 : b = (A 2)
    · refine own_by (fun _ zz => XT.acmpNo X3.here hx rfl (hb hby own_d2_11) rfl rfl rfl (XT.aa_ne_f (congrArg Value.ref q4)) zz) ?_
      show own_Goes p e below _ (T3.setTop (mkF m 14 #[.val (.ref b)] []))
      refine own_by (fun _ zz => XS.iconst X3.here hx rfl (hb hby own_d2_14) zz) ?_
      show own_Goes p e below _ (T3.setTop (mkF m 15 #[.val (.ref b)] [(.int (1 : Int32))]))
      refine own_by (fun _ zz => XS.goto X3.here hx rfl (pc0 := 15) (pc' := 19) rfl (hb hby own_d2_15) (by decide) (by decide) zz) ?_
      show own_Goes p e below _ (T3.setTop (mkF m 19 #[.val (.ref b)] [(.int (1 : Int32))]))
      refine own_retN X3 hx hlk (ty := .boolean) hret (by simp) (hb hby own_d2_19) (by decide) (by decide) ?_
      exact ⟨by unfold own_r_isExact; rw [if_neg q2, if_pos q4] <;> rfl, rfl, e3⟩
    · refine own_by (fun _ zz => XT.acmpYes X3.here hx rfl (pc0 := 11) (pc' := 18) rfl (hb hby own_d2_11) rfl rfl rfl (XT.aa_ne_t (fun q => q4 (Value.ref.inj q))) (by decide) (by decide) zz) ?_
      show own_Goes p e below _ (T3.setTop (mkF m 18 #[.val (.ref b)] []))
      refine own_by (fun _ zz => XS.iconst X3.here hx rfl (hb hby own_d2_18) zz) ?_
      show own_Goes p e below _ (T3.setTop (mkF m 19 #[.val (.ref b)] [(.int (0 : Int32))]))
      refine own_retN X3 hx hlk (ty := .boolean) hret (by simp) (hb hby own_d2_19) (by decide) (by decide) ?_
      exact ⟨by unfold own_r_isExact; rw [if_neg q2, if_neg q4] <;> rfl, rfl, e3⟩
theorem own_d4_0 : decode jdk_37_method_8_code 0 = .ok (.aload_n 1, 1) := by decide +kernel
theorem own_d4_1 : decode jdk_37_method_8_code 1 = .ok (.astore_n 2, 1) := by decide +kernel
theorem own_d4_2 : decode jdk_37_method_8_code 2 = .ok (.aload_n 0, 1) := by decide +kernel
theorem own_d4_3 : decode jdk_37_method_8_code 3 = .ok (.astore_n 3, 1) := by decide +kernel
theorem own_d4_4 : decode jdk_37_method_8_code 4 = .ok (.aload_n 3, 1) := by decide +kernel
theorem own_d4_5 : decode jdk_37_method_8_code 5 = .ok (.invokevirtual 29, 3) := by decide +kernel
theorem own_d4_8 : decode jdk_37_method_8_code 8 = .ok (.aload_n 2, 1) := by decide +kernel
theorem own_d4_9 : decode jdk_37_method_8_code 9 = .ok (.invokevirtual 29, 3) := by decide +kernel
theorem own_d4_12 : decode jdk_37_method_8_code 12 = .ok (.if_acmp .eq 22, 3) := by decide +kernel
theorem own_d4_15 : decode jdk_37_method_8_code 15 = .ok (.aload_n 3, 1) := by decide +kernel
theorem own_d4_16 : decode jdk_37_method_8_code 16 = .ok (.invokevirtual 33, 3) := by decide +kernel
theorem own_d4_19 : decode jdk_37_method_8_code 19 = .ok (.aload_n 2, 1) := by decide +kernel
theorem own_d4_20 : decode jdk_37_method_8_code 20 = .ok (.invokevirtual 33, 3) := by decide +kernel
theorem own_d4_23 : decode jdk_37_method_8_code 23 = .ok (.if_acmp .eq 11, 3) := by decide +kernel
theorem own_d4_26 : decode jdk_37_method_8_code 26 = .ok (.new 36, 3) := by decide +kernel
theorem own_d4_29 : decode jdk_37_method_8_code 29 = .ok (.dup, 1) := by decide +kernel
theorem own_d4_30 : decode jdk_37_method_8_code 30 = .ok (.invokespecial 38, 3) := by decide +kernel
theorem own_d4_33 : decode jdk_37_method_8_code 33 = .ok (.athrow, 1) := by decide +kernel
theorem own_d4_34 : decode jdk_37_method_8_code 34 = .ok (.aload_n 3, 1) := by decide +kernel
theorem own_d4_35 : decode jdk_37_method_8_code 35 = .ok (.getfield 7, 3) := by decide +kernel
theorem own_d4_38 : decode jdk_37_method_8_code 38 = .ok (.aload_n 2, 1) := by decide +kernel
theorem own_d4_39 : decode jdk_37_method_8_code 39 = .ok (.getfield 7, 3) := by decide +kernel
theorem own_d4_42 : decode jdk_37_method_8_code 42 = .ok (.isub, 1) := by decide +kernel
theorem own_d4_43 : decode jdk_37_method_8_code 43 = .ok (.ireturn, 1) := by decide +kernel
def own_r_cmp (A : Nat → Addr) (a : Addr) (b : Addr) (u : Int32) (v : Int32) : Int32 := (u - v)
set_option maxRecDepth 65536 in
set_option maxHeartbeats 40000000 in
theorem rm_cmp (l : Launch) {Z : State} {a0 : Array Value} (hw : ∀ d ∈ tables_1, d.before a0 Z = true) {A : Nat → Addr} {h0 : Heap} (W : own_W Z h0 A) (a : Addr) (b : Addr) (u : Int32) (v : Int32) {mir : Addr} {cM : ClassId} {kM : Class} (m1 : Z.vm.findClass "com/example/rillgraph/rillgraph/engine/Numeric$Type" = some cM) (m2 : Z.vm.classes[cM]? = some kM) (m3 : kM.mirror = some mir) (Ea : Exa Z h0 a "com/example/rillgraph/rillgraph/engine/Numeric$Type") (Eb : Exa Z h0 b "com/example/rillgraph/rillgraph/engine/Numeric$Type") (Fa : Fld Z h0 a "java/lang/Enum" "ordinal" "I" (.int u)) (Fb : Fld Z h0 b "java/lang/Enum" "ordinal" "I" (.int v)) :
    own_Does l Z (⟨"java/lang/Enum", "compareTo", "(Ljava/lang/Enum;)I"⟩ : MethodName) jdk_37_method_8_code 4 (some .int) [] ({ frames := 1, cells := 0, slots := 0, locals := 31 } : Room) #[(.ref a), (.ref b)] h0 (own_Is (.int (own_r_cmp A a b u v)) h0) := by
  refine own_body own_pn2 ?_
  intro p e s m below meth c T0 hx hby hml hret hlk hnm hown hZ X0 e0
  refine own_tr (XT.entry (Ls := #[.val (.ref a), .val (.ref b), .unset, .unset]) rfl) ?_
  show own_Goes p e below _ (T0.setTop (mkF m 0 #[.val (.ref a), .val (.ref b), .unset, .unset] []))
  refine own_by (fun _ zz => XS.aloadN X0.here hx rfl (hb hby own_d4_0) rfl rfl zz) ?_
  show own_Goes p e below _ (T0.setTop (mkF m 1 #[.val (.ref a), .val (.ref b), .unset, .unset] [(.ref b)]))
  refine own_by (fun _ zz => XS.astoreN X0.here hx rfl (hb hby own_d4_1) rfl rfl (l' := #[.val (.ref a), .val (.ref b), .val (.ref b), .unset]) rfl zz) ?_
  show own_Goes p e below _ (T0.setTop (mkF m 2 #[.val (.ref a), .val (.ref b), .val (.ref b), .unset] []))
  refine own_by (fun _ zz => XS.aloadN X0.here hx rfl (hb hby own_d4_2) rfl rfl zz) ?_
  show own_Goes p e below _ (T0.setTop (mkF m 3 #[.val (.ref a), .val (.ref b), .val (.ref b), .unset] [(.ref a)]))
  refine own_by (fun _ zz => XS.astoreN X0.here hx rfl (hb hby own_d4_3) rfl rfl (l' := #[.val (.ref a), .val (.ref b), .val (.ref b), .val (.ref a)]) rfl zz) ?_
  show own_Goes p e below _ (T0.setTop (mkF m 4 #[.val (.ref a), .val (.ref b), .val (.ref b), .val (.ref a)] []))
  refine own_by (fun _ zz => XS.aloadN X0.here hx rfl (hb hby own_d4_4) rfl rfl zz) ?_
  show own_Goes p e below _ (T0.setTop (mkF m 5 #[.val (.ref a), .val (.ref b), .val (.ref b), .val (.ref a)] [(.ref a)]))
  refine own_getClass X0 hx hZ (K := "com/example/rillgraph/rillgraph/engine/Numeric$Type") (mir := mir) hown (own_w27 hw) (own_w28 hw) (own_w30 hw) (own_w29 hw) (own_w31 hw) e0 Ea m1 m2 m3 (by rw [hml]; rfl) (hb hby own_d4_5) (by decide) (Nat.le_of_ble_eq_true rfl) fun T1 X1 e1 => ?_
  show own_Goes p e below _ (T1.setTop (mkF m 8 #[.val (.ref a), .val (.ref b), .val (.ref b), .val (.ref a)] [(.ref mir)]))
  refine own_by (fun _ zz => XS.aloadN X1.here hx rfl (hb hby own_d4_8) rfl rfl zz) ?_
  show own_Goes p e below _ (T1.setTop (mkF m 9 #[.val (.ref a), .val (.ref b), .val (.ref b), .val (.ref a)] [(.ref b), (.ref mir)]))
  refine own_getClass X1 hx hZ (K := "com/example/rillgraph/rillgraph/engine/Numeric$Type") (mir := mir) hown (own_w27 hw) (own_w28 hw) (own_w30 hw) (own_w29 hw) (own_w31 hw) e1 Eb m1 m2 m3 (by rw [hml]; rfl) (hb hby own_d4_9) (by decide) (Nat.le_of_ble_eq_true rfl) fun T2 X2 e2 => ?_
  show own_Goes p e below _ (T2.setTop (mkF m 12 #[.val (.ref a), .val (.ref b), .val (.ref b), .val (.ref a)] [(.ref mir), (.ref mir)]))
  refine own_by (fun _ zz => XT.acmpYes X2.here hx rfl (pc0 := 12) (pc' := 34) rfl (hb hby own_d4_12) rfl rfl rfl (XT.aa_eq_t rfl) (by decide) (by decide) zz) ?_
  show own_Goes p e below _ (T2.setTop (mkF m 34 #[.val (.ref a), .val (.ref b), .val (.ref b), .val (.ref a)] []))
  refine own_by (fun _ zz => XS.aloadN X2.here hx rfl (hb hby own_d4_34) rfl rfl zz) ?_
  show own_Goes p e below _ (T2.setTop (mkF m 35 #[.val (.ref a), .val (.ref b), .val (.ref b), .val (.ref a)] [(.ref a)]))
  refine own_getF X2 hx hZ hown (own_w33 hw) e2 Fa (hb hby own_d4_35) fun T3 X3 e3 => ?_
  show own_Goes p e below _ (T3.setTop (mkF m 38 #[.val (.ref a), .val (.ref b), .val (.ref b), .val (.ref a)] [(.int u)]))
  refine own_by (fun _ zz => XS.aloadN X3.here hx rfl (hb hby own_d4_38) rfl rfl zz) ?_
  show own_Goes p e below _ (T3.setTop (mkF m 39 #[.val (.ref a), .val (.ref b), .val (.ref b), .val (.ref a)] [(.ref b), (.int u)]))
  refine own_getF X3 hx hZ hown (own_w33 hw) e3 Fb (hb hby own_d4_39) fun T4 X4 e4 => ?_
  show own_Goes p e below _ (T4.setTop (mkF m 42 #[.val (.ref a), .val (.ref b), .val (.ref b), .val (.ref a)] [(.int v), (.int u)]))
  refine own_by (fun _ zz => XS.isub X4.here hx rfl (hb hby own_d4_42) rfl zz) ?_
  show own_Goes p e below _ (T4.setTop (mkF m 43 #[.val (.ref a), .val (.ref b), .val (.ref b), .val (.ref a)] [(.int (u - v))]))
  refine own_retI X4 hx hlk hret (hb hby own_d4_43) (by decide) (by decide) ?_
  exact ⟨by unfold own_r_cmp; rfl, rfl, e4⟩
theorem own_d3_0 : decode prog_71_method_5_code 0 = .ok (.aload_n 0, 1) := by decide +kernel
theorem own_d3_1 : decode prog_71_method_5_code 1 = .ok (.aload_n 1, 1) := by decide +kernel
theorem own_d3_2 : decode prog_71_method_5_code 2 = .ok (.invokevirtual 39, 3) := by decide +kernel
theorem own_d3_5 : decode prog_71_method_5_code 5 = .ok (.ifCond .lt 7, 3) := by decide +kernel
theorem own_d3_8 : decode prog_71_method_5_code 8 = .ok (.aload_n 0, 1) := by decide +kernel
theorem own_d3_9 : decode prog_71_method_5_code 9 = .ok (.goto 4, 3) := by decide +kernel
theorem own_d3_12 : decode prog_71_method_5_code 12 = .ok (.aload_n 1, 1) := by decide +kernel
theorem own_d3_13 : decode prog_71_method_5_code 13 = .ok (.areturn, 1) := by decide +kernel
def own_r_wider (A : Nat → Addr) (a : Addr) (b : Addr) (u : Int32) (v : Int32) : Addr := if (own_r_cmp A a b u v) < 0 then b else a
set_option maxRecDepth 65536 in
set_option maxHeartbeats 40000000 in
theorem rm_wider (l : Launch) {Z : State} {a0 : Array Value} (hw : ∀ d ∈ tables_1, d.before a0 Z = true) {A : Nat → Addr} {h0 : Heap} (W : own_W Z h0 A) (a : Addr) (b : Addr) (u : Int32) (v : Int32) {mir : Addr} {cM : ClassId} {kM : Class} (m1 : Z.vm.findClass "com/example/rillgraph/rillgraph/engine/Numeric$Type" = some cM) (m2 : Z.vm.classes[cM]? = some kM) (m3 : kM.mirror = some mir) (Ea : Exa Z h0 a "com/example/rillgraph/rillgraph/engine/Numeric$Type") (Eb : Exa Z h0 b "com/example/rillgraph/rillgraph/engine/Numeric$Type") (Fa : Fld Z h0 a "java/lang/Enum" "ordinal" "I" (.int u)) (Fb : Fld Z h0 b "java/lang/Enum" "ordinal" "I" (.int v)) :
    own_Does l Z (⟨"com/example/rillgraph/rillgraph/engine/Numeric$Type", "wider", "(Lcom/example/rillgraph/rillgraph/engine/Numeric$Type;Lcom/example/rillgraph/rillgraph/engine/Numeric$Type;)Lcom/example/rillgraph/rillgraph/engine/Numeric$Type;"⟩ : MethodName) prog_71_method_5_code 2 (some (.object "com/example/rillgraph/rillgraph/engine/Numeric$Type")) [] ({ frames := 2, cells := 0, slots := 0, locals := 46 } : Room) #[(.ref a), (.ref b)] h0 (own_Is (.ref (own_r_wider A a b u v)) h0) := by
  refine own_body own_pn1 ?_
  intro p e s m below meth c T0 hx hby hml hret hlk hnm hown hZ X0 e0
  refine own_tr (XT.entry (Ls := #[.val (.ref a), .val (.ref b)]) rfl) ?_
  show own_Goes p e below _ (T0.setTop (mkF m 0 #[.val (.ref a), .val (.ref b)] []))
  refine own_by (fun _ zz => XS.aloadN X0.here hx rfl (hb hby own_d3_0) rfl rfl zz) ?_
  show own_Goes p e below _ (T0.setTop (mkF m 1 #[.val (.ref a), .val (.ref b)] [(.ref a)]))
  refine own_by (fun _ zz => XS.aloadN X0.here hx rfl (hb hby own_d3_1) rfl rfl zz) ?_
  show own_Goes p e below _ (T0.setTop (mkF m 2 #[.val (.ref a), .val (.ref b)] [(.ref b), (.ref a)]))
  refine own_callVU0 X0 hx hZ (W := 0) (K := "com/example/rillgraph/rillgraph/engine/Numeric$Type") (owner := "java/lang/Enum") (argsL := [(.ref b)]) (rest := []) hown (own_w20 hw) (own_w21 hw) (own_w22 hw) (own_w24 hw) (own_w23 hw) (own_w26 hw) (own_w25 hw) (by decide) e0 Ea (rm_cmp l hw W a b u v m1 m2 m3 Ea Eb Fa Fb) (by decide) (by decide) (by decide) (by decide) (by rw [hml]; rfl) (lenOf own_pd0 rfl) rfl (Nat.le_of_ble_eq_true rfl) (hb hby own_d3_2) fun T1 X1 e1 => ?_
  show own_Goes p e below _ (T1.setTop (mkF m 5 #[.val (.ref a), .val (.ref b)] [(.int (own_r_cmp A a b u v))]))
  by_cases q2 : (own_r_cmp A a b u v) < 0
  · refine own_by (fun _ zz => XS.ifYes X1.here hx rfl (pc0 := 5) (pc' := 12) rfl (hb hby own_d3_5) rfl (XT.i0_lt_t q2) (by decide) (by decide) zz) ?_
    show own_Goes p e below _ (T1.setTop (mkF m 12 #[.val (.ref a), .val (.ref b)] []))
    refine own_by (fun _ zz => XS.aloadN X1.here hx rfl (hb hby own_d3_12) rfl rfl zz) ?_
    show own_Goes p e below _ (T1.setTop (mkF m 13 #[.val (.ref a), .val (.ref b)] [(.ref b)]))
    refine own_retR X1 hx hlk hret rfl rfl rfl (hb hby own_d3_13) (by decide) (by decide) ?_
    exact ⟨by unfold own_r_wider; rw [if_pos q2] <;> rfl, rfl, e1⟩
  · refine own_by (fun _ zz => XS.ifNo X1.here hx rfl (hb hby own_d3_5) rfl (XT.i0_lt_f q2) zz) ?_
    show own_Goes p e below _ (T1.setTop (mkF m 8 #[.val (.ref a), .val (.ref b)] []))
    refine own_by (fun _ zz => XS.aloadN X1.here hx rfl (hb hby own_d3_8) rfl rfl zz) ?_
    show own_Goes p e below _ (T1.setTop (mkF m 9 #[.val (.ref a), .val (.ref b)] [(.ref a)]))
    refine own_by (fun _ zz => XS.goto X1.here hx rfl (pc0 := 9) (pc' := 13) rfl (hb hby own_d3_9) (by decide) (by decide) zz) ?_
    show own_Goes p e below _ (T1.setTop (mkF m 13 #[.val (.ref a), .val (.ref b)] [(.ref a)]))
    refine own_retR X1 hx hlk hret rfl rfl rfl (hb hby own_d3_13) (by decide) (by decide) ?_
    exact ⟨by unfold own_r_wider; rw [if_neg q2] <;> rfl, rfl, e1⟩
theorem own_four {k : Int32} (h : 0 ≤ k.toInt ∧ k.toInt < 4) : k = 0 ∨ k = 1 ∨ k = 2 ∨ k = 3 := by
  have h2 : k.toInt = 0 ∨ k.toInt = 1 ∨ k.toInt = 2 ∨ k.toInt = 3 := by omega
  rcases h2 with h | h | h | h
  · exact Or.inl (own_eqInt h)
  · exact Or.inr (Or.inl (own_eqInt h))
  · exact Or.inr (Or.inr (Or.inl (own_eqInt h)))
  · exact Or.inr (Or.inr (Or.inr ((own_eqInt h))))
theorem own_i_INTEGER {Z : State} {h : Heap} {A : Nat → Addr} (W : own_W Z h A) : own_r_isExact A (A 0) = 1 := by
  unfold own_r_isExact; rw [if_pos rfl]
theorem own_i_DECIMAL {Z : State} {h : Heap} {A : Nat → Addr} (W : own_W Z h A) : own_r_isExact A (A 2) = 1 := by
  unfold own_r_isExact; rw [if_neg (own_ne (own_f10 W) (own_f9 W) (by simp)), if_pos rfl]
theorem own_i_FLOAT {Z : State} {h : Heap} {A : Nat → Addr} (W : own_W Z h A) : own_r_isExact A (A 3) = 0 := by
  unfold own_r_isExact; rw [if_neg (own_ne (own_f11 W) (own_f9 W) (by simp)), if_neg (own_ne (own_f11 W) (own_f10 W) (by simp))]
theorem own_i_DOUBLE {Z : State} {h : Heap} {A : Nat → Addr} (W : own_W Z h A) : own_r_isExact A (A 1) = 0 := by
  unfold own_r_isExact; rw [if_neg (own_ne (own_f8 W) (own_f9 W) (by simp)), if_neg (own_ne (own_f8 W) (own_f10 W) (by simp))]
theorem own_pick4 (A : Nat → Addr) (k : Int32) : ((k &&& (3 : Int32)) = 0 ∧ own_r_pick A k = (A 0)) ∨ ((k &&& (3 : Int32)) = 1 ∧ own_r_pick A k = (A 2)) ∨ ((k &&& (3 : Int32)) = 2 ∧ own_r_pick A k = (A 3)) ∨ ((k &&& (3 : Int32)) = 3 ∧ own_r_pick A k = (A 1)) := by
  rcases own_four (own_mask2 k) with q | q | q | q
  · exact Or.inl ⟨q, by unfold own_r_pick; rw [q]; rfl⟩
  · exact Or.inr (Or.inl ⟨q, by unfold own_r_pick; rw [q]; rfl⟩)
  · exact Or.inr (Or.inr (Or.inl ⟨q, by unfold own_r_pick; rw [q]; rfl⟩))
  · exact Or.inr (Or.inr (Or.inr (⟨q, by unfold own_r_pick; rw [q]; rfl⟩)))
theorem own_pk {Z : State} {h : Heap} {A : Nat → Addr} (W : own_W Z h A) (k : Int32) : Exa Z h (own_r_pick A k) "com/example/rillgraph/rillgraph/engine/Numeric$Type" ∧ Fld Z h (own_r_pick A k) "java/lang/Enum" "ordinal" "I" (.int (k &&& (3 : Int32))) := by
  rcases own_pick4 A k with ⟨q, r⟩ | ⟨q, r⟩ | ⟨q, r⟩ | ⟨q, r⟩
  · rw [q, r]; exact ⟨(own_f1 W), (own_f9 W)⟩
  · rw [q, r]; exact ⟨(own_f5 W), (own_f10 W)⟩
  · rw [q, r]; exact ⟨(own_f7 W), (own_f11 W)⟩
  · rw [q, r]; exact ⟨(own_f3 W), (own_f8 W)⟩
theorem own_ie {Z : State} {h : Heap} {A : Nat → Addr} (W : own_W Z h A) (k : Int32) : own_r_isExact A (own_r_pick A k) = if (k &&& (3 : Int32)) < (2 : Int32) then 1 else 0 := by
  rcases own_pick4 A k with ⟨q, r⟩ | ⟨q, r⟩ | ⟨q, r⟩ | ⟨q, r⟩
  · rw [q, r, own_i_INTEGER W]; rfl
  · rw [q, r, own_i_DECIMAL W]; rfl
  · rw [q, r, own_i_FLOAT W]; rfl
  · rw [q, r, own_i_DOUBLE W]; rfl
theorem own_wd (A : Nat → Addr) (j k : Int32) : (own_r_wider A (own_r_pick A j) (own_r_pick A k) (j &&& (3 : Int32)) (k &&& (3 : Int32))) = own_r_pick A j ∨ (own_r_wider A (own_r_pick A j) (own_r_pick A k) (j &&& (3 : Int32)) (k &&& (3 : Int32))) = own_r_pick A k := by
  unfold own_r_wider
  split
  · exact Or.inr rfl
  · exact Or.inl rfl
theorem own_exw {Z : State} {h : Heap} {A : Nat → Addr} (W : own_W Z h A) (j k : Int32) : Exa Z h (own_r_wider A (own_r_pick A j) (own_r_pick A k) (j &&& (3 : Int32)) (k &&& (3 : Int32))) "com/example/rillgraph/rillgraph/engine/Numeric$Type" := by
  rcases own_wd A j k with q | q <;> rw [q]
  · exact (own_pk W j).1
  · exact (own_pk W k).1
theorem own_iw {Z : State} {h : Heap} {A : Nat → Addr} (W : own_W Z h A) (j k : Int32) : own_r_isExact A (own_r_wider A (own_r_pick A j) (own_r_pick A k) (j &&& (3 : Int32)) (k &&& (3 : Int32))) = if (j &&& (3 : Int32)) < (2 : Int32) then (if (k &&& (3 : Int32)) < (2 : Int32) then 1 else 0) else 0 := by
  rcases own_pick4 A j with ⟨q, r⟩ | ⟨q, r⟩ | ⟨q, r⟩ | ⟨q, r⟩ <;> rcases own_pick4 A k with ⟨q2, r2⟩ | ⟨q2, r2⟩ | ⟨q2, r2⟩ | ⟨q2, r2⟩
  · rw [q, r, q2, r2]; show own_r_isExact A (A 0) = _; rw [own_i_INTEGER W]; rfl
  · rw [q, r, q2, r2]; show own_r_isExact A (A 2) = _; rw [own_i_DECIMAL W]; rfl
  · rw [q, r, q2, r2]; show own_r_isExact A (A 3) = _; rw [own_i_FLOAT W]; rfl
  · rw [q, r, q2, r2]; show own_r_isExact A (A 1) = _; rw [own_i_DOUBLE W]; rfl
  · rw [q, r, q2, r2]; show own_r_isExact A (A 2) = _; rw [own_i_DECIMAL W]; rfl
  · rw [q, r, q2, r2]; show own_r_isExact A (A 2) = _; rw [own_i_DECIMAL W]; rfl
  · rw [q, r, q2, r2]; show own_r_isExact A (A 3) = _; rw [own_i_FLOAT W]; rfl
  · rw [q, r, q2, r2]; show own_r_isExact A (A 1) = _; rw [own_i_DOUBLE W]; rfl
  · rw [q, r, q2, r2]; show own_r_isExact A (A 3) = _; rw [own_i_FLOAT W]; rfl
  · rw [q, r, q2, r2]; show own_r_isExact A (A 3) = _; rw [own_i_FLOAT W]; rfl
  · rw [q, r, q2, r2]; show own_r_isExact A (A 3) = _; rw [own_i_FLOAT W]; rfl
  · rw [q, r, q2, r2]; show own_r_isExact A (A 1) = _; rw [own_i_DOUBLE W]; rfl
  · rw [q, r, q2, r2]; show own_r_isExact A (A 1) = _; rw [own_i_DOUBLE W]; rfl
  · rw [q, r, q2, r2]; show own_r_isExact A (A 1) = _; rw [own_i_DOUBLE W]; rfl
  · rw [q, r, q2, r2]; show own_r_isExact A (A 1) = _; rw [own_i_DOUBLE W]; rfl
  · rw [q, r, q2, r2]; show own_r_isExact A (A 1) = _; rw [own_i_DOUBLE W]; rfl
def own_Q (h0 : Heap) (v : Option Value) (h : Heap) (L : List Loc) : Prop := v = some (.int 1) ∧ L = []
set_option maxRecDepth 65536 in
set_option maxHeartbeats 40000000 in
theorem rm_law (l : Launch) {Z : State} {a0 : Array Value} (hw : ∀ d ∈ tables_1, d.before a0 Z = true) (ws : List Jvm.Cond) {A : Nat → Addr} {h0 : Heap} (W : own_W Z h0 A) {mir : Addr} {cM : ClassId} {kM : Class} (m1 : Z.vm.findClass "com/example/rillgraph/rillgraph/engine/Numeric$Type" = some cM) (m2 : Z.vm.classes[cM]? = some kM) (m3 : kM.mirror = some mir) (p0 : Int32) (p1 : Int32) :
    own_Does l Z x code maxLocals ret ws room_1 #[(.int p0), (.int p1)] h0 (own_Q h0) := by
  refine own_body own_pn0 ?_
  intro p e s m below meth c T0 hx hby hml hret hlk hnm hown hZ X0 e0
  refine own_tr (XT.entry (Ls := #[.val (.int p0), .val (.int p1), .unset, .unset, .unset, .unset, .unset, .unset, .unset]) rfl) ?_
  show own_Goes p e below _ (T0.setTop (mkF m 0 #[.val (.int p0), .val (.int p1), .unset, .unset, .unset, .unset, .unset, .unset, .unset] []))
  refine own_by (fun _ zz => XS.iloadN X0.here hx rfl (hb hby at_0) rfl zz) ?_
  show own_Goes p e below _ (T0.setTop (mkF m 1 #[.val (.int p0), .val (.int p1), .unset, .unset, .unset, .unset, .unset, .unset, .unset] [(.int p0)]))
  refine own_callS0 X0 hx hZ (W := 0) (argsL := [(.int p0)]) (rest := []) hown (own_w0 hw) (own_w1 hw) (own_w2 hw) (own_w3 hw) (by decide) e0 (rm_pick l hw W p0) (by decide) (by decide) (by decide) (by decide) (by rw [hml]; rfl) (lenOf own_pd1 rfl) rfl (Nat.le_of_ble_eq_true rfl) (hb hby at_1) fun T1 X1 e1 => ?_
  show own_Goes p e below _ (T1.setTop (mkF m 4 #[.val (.int p0), .val (.int p1), .unset, .unset, .unset, .unset, .unset, .unset, .unset] [(.ref (own_r_pick A p0))]))
  refine own_by (fun _ zz => XS.astoreN X1.here hx rfl (hb hby at_4) rfl rfl (l' := #[.val (.int p0), .val (.int p1), .val (.ref (own_r_pick A p0)), .unset, .unset, .unset, .unset, .unset, .unset]) rfl zz) ?_
  show own_Goes p e below _ (T1.setTop (mkF m 5 #[.val (.int p0), .val (.int p1), .val (.ref (own_r_pick A p0)), .unset, .unset, .unset, .unset, .unset, .unset] []))
  refine own_by (fun _ zz => XS.iloadN X1.here hx rfl (hb hby at_5) rfl zz) ?_
  show own_Goes p e below _ (T1.setTop (mkF m 6 #[.val (.int p0), .val (.int p1), .val (.ref (own_r_pick A p0)), .unset, .unset, .unset, .unset, .unset, .unset] [(.int p1)]))
  refine own_callS0 X1 hx hZ (W := 0) (argsL := [(.int p1)]) (rest := []) hown (own_w0 hw) (own_w1 hw) (own_w2 hw) (own_w3 hw) (by decide) e1 (rm_pick l hw W p1) (by decide) (by decide) (by decide) (by decide) (by rw [hml]; rfl) (lenOf own_pd1 rfl) rfl (Nat.le_of_ble_eq_true rfl) (hb hby at_6) fun T2 X2 e2 => ?_
  show own_Goes p e below _ (T2.setTop (mkF m 9 #[.val (.int p0), .val (.int p1), .val (.ref (own_r_pick A p0)), .unset, .unset, .unset, .unset, .unset, .unset] [(.ref (own_r_pick A p1))]))
  refine own_by (fun _ zz => XS.astoreN X2.here hx rfl (hb hby at_9) rfl rfl (l' := #[.val (.int p0), .val (.int p1), .val (.ref (own_r_pick A p0)), .val (.ref (own_r_pick A p1)), .unset, .unset, .unset, .unset, .unset]) rfl zz) ?_
  show own_Goes p e below _ (T2.setTop (mkF m 10 #[.val (.int p0), .val (.int p1), .val (.ref (own_r_pick A p0)), .val (.ref (own_r_pick A p1)), .unset, .unset, .unset, .unset, .unset] []))
  refine own_by (fun _ zz => XS.aloadN X2.here hx rfl (hb hby at_10) rfl rfl zz) ?_
  show own_Goes p e below _ (T2.setTop (mkF m 11 #[.val (.int p0), .val (.int p1), .val (.ref (own_r_pick A p0)), .val (.ref (own_r_pick A p1)), .unset, .unset, .unset, .unset, .unset] [(.ref (own_r_pick A p0))]))
  refine own_callV0 X2 hx hZ (W := 0) (K := "com/example/rillgraph/rillgraph/engine/Numeric$Type") (argsL := []) (rest := []) hown (own_w9 hw) (own_w10 hw) (own_w12 hw) (own_w11 hw) (own_w13 hw) (own_w5 hw) (by decide) e2 (own_pk W p0).1 (rm_isExact l hw W (own_r_pick A p0)) (by decide) (by decide) (by decide) (by decide) (by rw [hml]; rfl) (lenOf own_pd2 rfl) rfl (Nat.le_of_ble_eq_true rfl) (hb hby at_11) fun T3 X3 e3 => ?_
  show own_Goes p e below _ (T3.setTop (mkF m 14 #[.val (.int p0), .val (.int p1), .val (.ref (own_r_pick A p0)), .val (.ref (own_r_pick A p1)), .unset, .unset, .unset, .unset, .unset] [(.int (own_r_isExact A (own_r_pick A p0)))]))
  refine own_by (fun _ zz => XS.istore X3.here hx rfl (hb hby at_14) rfl (l' := #[.val (.int p0), .val (.int p1), .val (.ref (own_r_pick A p0)), .val (.ref (own_r_pick A p1)), .val (.int (own_r_isExact A (own_r_pick A p0))), .unset, .unset, .unset, .unset]) rfl zz) ?_
  show own_Goes p e below _ (T3.setTop (mkF m 16 #[.val (.int p0), .val (.int p1), .val (.ref (own_r_pick A p0)), .val (.ref (own_r_pick A p1)), .val (.int (own_r_isExact A (own_r_pick A p0))), .unset, .unset, .unset, .unset] []))
  refine own_by (fun _ zz => XS.aloadN X3.here hx rfl (hb hby at_16) rfl rfl zz) ?_
  show own_Goes p e below _ (T3.setTop (mkF m 17 #[.val (.int p0), .val (.int p1), .val (.ref (own_r_pick A p0)), .val (.ref (own_r_pick A p1)), .val (.int (own_r_isExact A (own_r_pick A p0))), .unset, .unset, .unset, .unset] [(.ref (own_r_pick A p1))]))
  refine own_callV0 X3 hx hZ (W := 0) (K := "com/example/rillgraph/rillgraph/engine/Numeric$Type") (argsL := []) (rest := []) hown (own_w9 hw) (own_w10 hw) (own_w12 hw) (own_w11 hw) (own_w13 hw) (own_w5 hw) (by decide) e3 (own_pk W p1).1 (rm_isExact l hw W (own_r_pick A p1)) (by decide) (by decide) (by decide) (by decide) (by rw [hml]; rfl) (lenOf own_pd2 rfl) rfl (Nat.le_of_ble_eq_true rfl) (hb hby at_17) fun T4 X4 e4 => ?_
  show own_Goes p e below _ (T4.setTop (mkF m 20 #[.val (.int p0), .val (.int p1), .val (.ref (own_r_pick A p0)), .val (.ref (own_r_pick A p1)), .val (.int (own_r_isExact A (own_r_pick A p0))), .unset, .unset, .unset, .unset] [(.int (own_r_isExact A (own_r_pick A p1)))]))
  refine own_by (fun _ zz => XS.istore X4.here hx rfl (hb hby at_20) rfl (l' := #[.val (.int p0), .val (.int p1), .val (.ref (own_r_pick A p0)), .val (.ref (own_r_pick A p1)), .val (.int (own_r_isExact A (own_r_pick A p0))), .val (.int (own_r_isExact A (own_r_pick A p1))), .unset, .unset, .unset]) rfl zz) ?_
  show own_Goes p e below _ (T4.setTop (mkF m 22 #[.val (.int p0), .val (.int p1), .val (.ref (own_r_pick A p0)), .val (.ref (own_r_pick A p1)), .val (.int (own_r_isExact A (own_r_pick A p0))), .val (.int (own_r_isExact A (own_r_pick A p1))), .unset, .unset, .unset] []))
  refine own_by (fun _ zz => XS.iloadN X4.here hx rfl (hb hby at_22) rfl zz) ?_
  show own_Goes p e below _ (T4.setTop (mkF m 23 #[.val (.int p0), .val (.int p1), .val (.ref (own_r_pick A p0)), .val (.ref (own_r_pick A p1)), .val (.int (own_r_isExact A (own_r_pick A p0))), .val (.int (own_r_isExact A (own_r_pick A p1))), .unset, .unset, .unset] [(.int p0)]))
  refine own_by (fun _ zz => XS.iconst X4.here hx rfl (hb hby at_23) zz) ?_
  show own_Goes p e below _ (T4.setTop (mkF m 24 #[.val (.int p0), .val (.int p1), .val (.ref (own_r_pick A p0)), .val (.ref (own_r_pick A p1)), .val (.int (own_r_isExact A (own_r_pick A p0))), .val (.int (own_r_isExact A (own_r_pick A p1))), .unset, .unset, .unset] [(.int (3 : Int32)), (.int p0)]))
  refine own_by (fun _ zz => XS.iand X4.here hx rfl (hb hby at_24) rfl zz) ?_
  show own_Goes p e below _ (T4.setTop (mkF m 25 #[.val (.int p0), .val (.int p1), .val (.ref (own_r_pick A p0)), .val (.ref (own_r_pick A p1)), .val (.int (own_r_isExact A (own_r_pick A p0))), .val (.int (own_r_isExact A (own_r_pick A p1))), .unset, .unset, .unset] [(.int (p0 &&& (3 : Int32)))]))
  refine own_by (fun _ zz => XS.iconst X4.here hx rfl (hb hby at_25) zz) ?_
  show own_Goes p e below _ (T4.setTop (mkF m 26 #[.val (.int p0), .val (.int p1), .val (.ref (own_r_pick A p0)), .val (.ref (own_r_pick A p1)), .val (.int (own_r_isExact A (own_r_pick A p0))), .val (.int (own_r_isExact A (own_r_pick A p1))), .unset, .unset, .unset] [(.int (2 : Int32)), (.int (p0 &&& (3 : Int32)))]))
  by_cases q5 : (p0 &&& (3 : Int32)) < (2 : Int32)
  · refine own_by (fun _ zz => XS.icmpNo X4.here hx rfl (hb hby at_26) rfl (XT.ii_ge_f q5) zz) ?_
    show own_Goes p e below _ (T4.setTop (mkF m 29 #[.val (.int p0), .val (.int p1), .val (.ref (own_r_pick A p0)), .val (.ref (own_r_pick A p1)), .val (.int (own_r_isExact A (own_r_pick A p0))), .val (.int (own_r_isExact A (own_r_pick A p1))), .unset, .unset, .unset] []))
    refine own_by (fun _ zz => XS.iconst X4.here hx rfl (hb hby at_29) zz) ?_
    show own_Goes p e below _ (T4.setTop (mkF m 30 #[.val (.int p0), .val (.int p1), .val (.ref (own_r_pick A p0)), .val (.ref (own_r_pick A p1)), .val (.int (own_r_isExact A (own_r_pick A p0))), .val (.int (own_r_isExact A (own_r_pick A p1))), .unset, .unset, .unset] [(.int (1 : Int32))]))
    refine own_by (fun _ zz => XS.goto X4.here hx rfl (pc0 := 30) (pc' := 34) rfl (hb hby at_30) (by decide) (by decide) zz) ?_
    show own_Goes p e below _ (T4.setTop (mkF m 34 #[.val (.int p0), .val (.int p1), .val (.ref (own_r_pick A p0)), .val (.ref (own_r_pick A p1)), .val (.int (own_r_isExact A (own_r_pick A p0))), .val (.int (own_r_isExact A (own_r_pick A p1))), .unset, .unset, .unset] [(.int (1 : Int32))]))
    refine own_by (fun _ zz => XS.istore X4.here hx rfl (hb hby at_34) rfl (l' := #[.val (.int p0), .val (.int p1), .val (.ref (own_r_pick A p0)), .val (.ref (own_r_pick A p1)), .val (.int (own_r_isExact A (own_r_pick A p0))), .val (.int (own_r_isExact A (own_r_pick A p1))), .val (.int (1 : Int32)), .unset, .unset]) rfl zz) ?_
    show own_Goes p e below _ (T4.setTop (mkF m 36 #[.val (.int p0), .val (.int p1), .val (.ref (own_r_pick A p0)), .val (.ref (own_r_pick A p1)), .val (.int (own_r_isExact A (own_r_pick A p0))), .val (.int (own_r_isExact A (own_r_pick A p1))), .val (.int (1 : Int32)), .unset, .unset] []))
    refine own_by (fun _ zz => XS.iloadN X4.here hx rfl (hb hby at_36) rfl zz) ?_
    show own_Goes p e below _ (T4.setTop (mkF m 37 #[.val (.int p0), .val (.int p1), .val (.ref (own_r_pick A p0)), .val (.ref (own_r_pick A p1)), .val (.int (own_r_isExact A (own_r_pick A p0))), .val (.int (own_r_isExact A (own_r_pick A p1))), .val (.int (1 : Int32)), .unset, .unset] [(.int p1)]))
    refine own_by (fun _ zz => XS.iconst X4.here hx rfl (hb hby at_37) zz) ?_
    show own_Goes p e below _ (T4.setTop (mkF m 38 #[.val (.int p0), .val (.int p1), .val (.ref (own_r_pick A p0)), .val (.ref (own_r_pick A p1)), .val (.int (own_r_isExact A (own_r_pick A p0))), .val (.int (own_r_isExact A (own_r_pick A p1))), .val (.int (1 : Int32)), .unset, .unset] [(.int (3 : Int32)), (.int p1)]))
    refine own_by (fun _ zz => XS.iand X4.here hx rfl (hb hby at_38) rfl zz) ?_
    show own_Goes p e below _ (T4.setTop (mkF m 39 #[.val (.int p0), .val (.int p1), .val (.ref (own_r_pick A p0)), .val (.ref (own_r_pick A p1)), .val (.int (own_r_isExact A (own_r_pick A p0))), .val (.int (own_r_isExact A (own_r_pick A p1))), .val (.int (1 : Int32)), .unset, .unset] [(.int (p1 &&& (3 : Int32)))]))
    refine own_by (fun _ zz => XS.iconst X4.here hx rfl (hb hby at_39) zz) ?_
    show own_Goes p e below _ (T4.setTop (mkF m 40 #[.val (.int p0), .val (.int p1), .val (.ref (own_r_pick A p0)), .val (.ref (own_r_pick A p1)), .val (.int (own_r_isExact A (own_r_pick A p0))), .val (.int (own_r_isExact A (own_r_pick A p1))), .val (.int (1 : Int32)), .unset, .unset] [(.int (2 : Int32)), (.int (p1 &&& (3 : Int32)))]))
    by_cases q6 : (p1 &&& (3 : Int32)) < (2 : Int32)
    · refine own_by (fun _ zz => XS.icmpNo X4.here hx rfl (hb hby at_40) rfl (XT.ii_ge_f q6) zz) ?_
      show own_Goes p e below _ (T4.setTop (mkF m 43 #[.val (.int p0), .val (.int p1), .val (.ref (own_r_pick A p0)), .val (.ref (own_r_pick A p1)), .val (.int (own_r_isExact A (own_r_pick A p0))), .val (.int (own_r_isExact A (own_r_pick A p1))), .val (.int (1 : Int32)), .unset, .unset] []))
      refine own_by (fun _ zz => XS.iconst X4.here hx rfl (hb hby at_43) zz) ?_
      show own_Goes p e below _ (T4.setTop (mkF m 44 #[.val (.int p0), .val (.int p1), .val (.ref (own_r_pick A p0)), .val (.ref (own_r_pick A p1)), .val (.int (own_r_isExact A (own_r_pick A p0))), .val (.int (own_r_isExact A (own_r_pick A p1))), .val (.int (1 : Int32)), .unset, .unset] [(.int (1 : Int32))]))
      refine own_by (fun _ zz => XS.goto X4.here hx rfl (pc0 := 44) (pc' := 48) rfl (hb hby at_44) (by decide) (by decide) zz) ?_
      show own_Goes p e below _ (T4.setTop (mkF m 48 #[.val (.int p0), .val (.int p1), .val (.ref (own_r_pick A p0)), .val (.ref (own_r_pick A p1)), .val (.int (own_r_isExact A (own_r_pick A p0))), .val (.int (own_r_isExact A (own_r_pick A p1))), .val (.int (1 : Int32)), .unset, .unset] [(.int (1 : Int32))]))
      refine own_by (fun _ zz => XS.istore X4.here hx rfl (hb hby at_48) rfl (l' := #[.val (.int p0), .val (.int p1), .val (.ref (own_r_pick A p0)), .val (.ref (own_r_pick A p1)), .val (.int (own_r_isExact A (own_r_pick A p0))), .val (.int (own_r_isExact A (own_r_pick A p1))), .val (.int (1 : Int32)), .val (.int (1 : Int32)), .unset]) rfl zz) ?_
      show own_Goes p e below _ (T4.setTop (mkF m 50 #[.val (.int p0), .val (.int p1), .val (.ref (own_r_pick A p0)), .val (.ref (own_r_pick A p1)), .val (.int (own_r_isExact A (own_r_pick A p0))), .val (.int (own_r_isExact A (own_r_pick A p1))), .val (.int (1 : Int32)), .val (.int (1 : Int32)), .unset] []))
      refine own_by (fun _ zz => XS.aloadN X4.here hx rfl (hb hby at_50) rfl rfl zz) ?_
      show own_Goes p e below _ (T4.setTop (mkF m 51 #[.val (.int p0), .val (.int p1), .val (.ref (own_r_pick A p0)), .val (.ref (own_r_pick A p1)), .val (.int (own_r_isExact A (own_r_pick A p0))), .val (.int (own_r_isExact A (own_r_pick A p1))), .val (.int (1 : Int32)), .val (.int (1 : Int32)), .unset] [(.ref (own_r_pick A p0))]))
      refine own_by (fun _ zz => XS.aloadN X4.here hx rfl (hb hby at_51) rfl rfl zz) ?_
      show own_Goes p e below _ (T4.setTop (mkF m 52 #[.val (.int p0), .val (.int p1), .val (.ref (own_r_pick A p0)), .val (.ref (own_r_pick A p1)), .val (.int (own_r_isExact A (own_r_pick A p0))), .val (.int (own_r_isExact A (own_r_pick A p1))), .val (.int (1 : Int32)), .val (.int (1 : Int32)), .unset] [(.ref (own_r_pick A p1)), (.ref (own_r_pick A p0))]))
      refine own_callS0 X4 hx hZ (W := 0) (argsL := [(.ref (own_r_pick A p0)), (.ref (own_r_pick A p1))]) (rest := []) hown (own_w17 hw) (own_w18 hw) (own_w5 hw) (own_w19 hw) (by decide) e4 (rm_wider l hw W (own_r_pick A p0) (own_r_pick A p1) (p0 &&& (3 : Int32)) (p1 &&& (3 : Int32)) m1 m2 m3 (own_pk W p0).1 (own_pk W p1).1 (own_pk W p0).2 (own_pk W p1).2) (by decide) (by decide) (by decide) (by decide) (by rw [hml]; rfl) (lenOf own_pd3 rfl) rfl (Nat.le_of_ble_eq_true rfl) (hb hby at_52) fun T7 X7 e7 => ?_
      show own_Goes p e below _ (T7.setTop (mkF m 55 #[.val (.int p0), .val (.int p1), .val (.ref (own_r_pick A p0)), .val (.ref (own_r_pick A p1)), .val (.int (own_r_isExact A (own_r_pick A p0))), .val (.int (own_r_isExact A (own_r_pick A p1))), .val (.int (1 : Int32)), .val (.int (1 : Int32)), .unset] [(.ref (own_r_wider A (own_r_pick A p0) (own_r_pick A p1) (p0 &&& (3 : Int32)) (p1 &&& (3 : Int32))))]))
      refine own_callV0 X7 hx hZ (W := 0) (K := "com/example/rillgraph/rillgraph/engine/Numeric$Type") (argsL := []) (rest := []) hown (own_w9 hw) (own_w10 hw) (own_w12 hw) (own_w11 hw) (own_w13 hw) (own_w5 hw) (by decide) e7 (own_exw W p0 p1) (rm_isExact l hw W (own_r_wider A (own_r_pick A p0) (own_r_pick A p1) (p0 &&& (3 : Int32)) (p1 &&& (3 : Int32)))) (by decide) (by decide) (by decide) (by decide) (by rw [hml]; rfl) (lenOf own_pd2 rfl) rfl (Nat.le_of_ble_eq_true rfl) (hb hby at_55) fun T8 X8 e8 => ?_
      show own_Goes p e below _ (T8.setTop (mkF m 58 #[.val (.int p0), .val (.int p1), .val (.ref (own_r_pick A p0)), .val (.ref (own_r_pick A p1)), .val (.int (own_r_isExact A (own_r_pick A p0))), .val (.int (own_r_isExact A (own_r_pick A p1))), .val (.int (1 : Int32)), .val (.int (1 : Int32)), .unset] [(.int (own_r_isExact A (own_r_wider A (own_r_pick A p0) (own_r_pick A p1) (p0 &&& (3 : Int32)) (p1 &&& (3 : Int32)))))]))
      refine own_by (fun _ zz => XS.istore X8.here hx rfl (hb hby at_58) rfl (l' := #[.val (.int p0), .val (.int p1), .val (.ref (own_r_pick A p0)), .val (.ref (own_r_pick A p1)), .val (.int (own_r_isExact A (own_r_pick A p0))), .val (.int (own_r_isExact A (own_r_pick A p1))), .val (.int (1 : Int32)), .val (.int (1 : Int32)), .val (.int (own_r_isExact A (own_r_wider A (own_r_pick A p0) (own_r_pick A p1) (p0 &&& (3 : Int32)) (p1 &&& (3 : Int32)))))]) rfl zz) ?_
      show own_Goes p e below _ (T8.setTop (mkF m 60 #[.val (.int p0), .val (.int p1), .val (.ref (own_r_pick A p0)), .val (.ref (own_r_pick A p1)), .val (.int (own_r_isExact A (own_r_pick A p0))), .val (.int (own_r_isExact A (own_r_pick A p1))), .val (.int (1 : Int32)), .val (.int (1 : Int32)), .val (.int (own_r_isExact A (own_r_wider A (own_r_pick A p0) (own_r_pick A p1) (p0 &&& (3 : Int32)) (p1 &&& (3 : Int32)))))] []))
      refine own_by (fun _ zz => XS.iload X8.here hx rfl (hb hby at_60) rfl zz) ?_
      show own_Goes p e below _ (T8.setTop (mkF m 62 #[.val (.int p0), .val (.int p1), .val (.ref (own_r_pick A p0)), .val (.ref (own_r_pick A p1)), .val (.int (own_r_isExact A (own_r_pick A p0))), .val (.int (own_r_isExact A (own_r_pick A p1))), .val (.int (1 : Int32)), .val (.int (1 : Int32)), .val (.int (own_r_isExact A (own_r_wider A (own_r_pick A p0) (own_r_pick A p1) (p0 &&& (3 : Int32)) (p1 &&& (3 : Int32)))))] [(.int (own_r_isExact A (own_r_pick A p0)))]))
      refine own_by (fun _ zz => XS.iload X8.here hx rfl (hb hby at_62) rfl zz) ?_
      show own_Goes p e below _ (T8.setTop (mkF m 64 #[.val (.int p0), .val (.int p1), .val (.ref (own_r_pick A p0)), .val (.ref (own_r_pick A p1)), .val (.int (own_r_isExact A (own_r_pick A p0))), .val (.int (own_r_isExact A (own_r_pick A p1))), .val (.int (1 : Int32)), .val (.int (1 : Int32)), .val (.int (own_r_isExact A (own_r_wider A (own_r_pick A p0) (own_r_pick A p1) (p0 &&& (3 : Int32)) (p1 &&& (3 : Int32)))))] [(.int (1 : Int32)), (.int (own_r_isExact A (own_r_pick A p0)))]))
      refine own_by (fun _ zz => XS.icmpNo X8.here hx rfl (hb hby at_64) rfl (XT.ii_ne_f (by rw [own_ie W p0, if_pos q5])) zz) ?_
      show own_Goes p e below _ (T8.setTop (mkF m 67 #[.val (.int p0), .val (.int p1), .val (.ref (own_r_pick A p0)), .val (.ref (own_r_pick A p1)), .val (.int (own_r_isExact A (own_r_pick A p0))), .val (.int (own_r_isExact A (own_r_pick A p1))), .val (.int (1 : Int32)), .val (.int (1 : Int32)), .val (.int (own_r_isExact A (own_r_wider A (own_r_pick A p0) (own_r_pick A p1) (p0 &&& (3 : Int32)) (p1 &&& (3 : Int32)))))] []))
      refine own_by (fun _ zz => XS.iload X8.here hx rfl (hb hby at_67) rfl zz) ?_
      show own_Goes p e below _ (T8.setTop (mkF m 69 #[.val (.int p0), .val (.int p1), .val (.ref (own_r_pick A p0)), .val (.ref (own_r_pick A p1)), .val (.int (own_r_isExact A (own_r_pick A p0))), .val (.int (own_r_isExact A (own_r_pick A p1))), .val (.int (1 : Int32)), .val (.int (1 : Int32)), .val (.int (own_r_isExact A (own_r_wider A (own_r_pick A p0) (own_r_pick A p1) (p0 &&& (3 : Int32)) (p1 &&& (3 : Int32)))))] [(.int (own_r_isExact A (own_r_pick A p1)))]))
      refine own_by (fun _ zz => XS.iload X8.here hx rfl (hb hby at_69) rfl zz) ?_
      show own_Goes p e below _ (T8.setTop (mkF m 71 #[.val (.int p0), .val (.int p1), .val (.ref (own_r_pick A p0)), .val (.ref (own_r_pick A p1)), .val (.int (own_r_isExact A (own_r_pick A p0))), .val (.int (own_r_isExact A (own_r_pick A p1))), .val (.int (1 : Int32)), .val (.int (1 : Int32)), .val (.int (own_r_isExact A (own_r_wider A (own_r_pick A p0) (own_r_pick A p1) (p0 &&& (3 : Int32)) (p1 &&& (3 : Int32)))))] [(.int (1 : Int32)), (.int (own_r_isExact A (own_r_pick A p1)))]))
      refine own_by (fun _ zz => XS.icmpNo X8.here hx rfl (hb hby at_71) rfl (XT.ii_ne_f (by rw [own_ie W p1, if_pos q6])) zz) ?_
      show own_Goes p e below _ (T8.setTop (mkF m 74 #[.val (.int p0), .val (.int p1), .val (.ref (own_r_pick A p0)), .val (.ref (own_r_pick A p1)), .val (.int (own_r_isExact A (own_r_pick A p0))), .val (.int (own_r_isExact A (own_r_pick A p1))), .val (.int (1 : Int32)), .val (.int (1 : Int32)), .val (.int (own_r_isExact A (own_r_wider A (own_r_pick A p0) (own_r_pick A p1) (p0 &&& (3 : Int32)) (p1 &&& (3 : Int32)))))] []))
      refine own_by (fun _ zz => XS.iload X8.here hx rfl (hb hby at_74) rfl zz) ?_
      show own_Goes p e below _ (T8.setTop (mkF m 76 #[.val (.int p0), .val (.int p1), .val (.ref (own_r_pick A p0)), .val (.ref (own_r_pick A p1)), .val (.int (own_r_isExact A (own_r_pick A p0))), .val (.int (own_r_isExact A (own_r_pick A p1))), .val (.int (1 : Int32)), .val (.int (1 : Int32)), .val (.int (own_r_isExact A (own_r_wider A (own_r_pick A p0) (own_r_pick A p1) (p0 &&& (3 : Int32)) (p1 &&& (3 : Int32)))))] [(.int (own_r_isExact A (own_r_wider A (own_r_pick A p0) (own_r_pick A p1) (p0 &&& (3 : Int32)) (p1 &&& (3 : Int32)))))]))
      refine own_by (fun _ zz => XS.iload X8.here hx rfl (hb hby at_76) rfl zz) ?_
      show own_Goes p e below _ (T8.setTop (mkF m 78 #[.val (.int p0), .val (.int p1), .val (.ref (own_r_pick A p0)), .val (.ref (own_r_pick A p1)), .val (.int (own_r_isExact A (own_r_pick A p0))), .val (.int (own_r_isExact A (own_r_pick A p1))), .val (.int (1 : Int32)), .val (.int (1 : Int32)), .val (.int (own_r_isExact A (own_r_wider A (own_r_pick A p0) (own_r_pick A p1) (p0 &&& (3 : Int32)) (p1 &&& (3 : Int32)))))] [(.int (own_r_isExact A (own_r_pick A p0))), (.int (own_r_isExact A (own_r_wider A (own_r_pick A p0) (own_r_pick A p1) (p0 &&& (3 : Int32)) (p1 &&& (3 : Int32)))))]))
      refine own_by (fun _ zz => XS.ifNo X8.here hx rfl (hb hby at_78) rfl (XT.i0_eq_f (by rw [own_ie W p0, if_pos q5]; decide)) zz) ?_
      show own_Goes p e below _ (T8.setTop (mkF m 81 #[.val (.int p0), .val (.int p1), .val (.ref (own_r_pick A p0)), .val (.ref (own_r_pick A p1)), .val (.int (own_r_isExact A (own_r_pick A p0))), .val (.int (own_r_isExact A (own_r_pick A p1))), .val (.int (1 : Int32)), .val (.int (1 : Int32)), .val (.int (own_r_isExact A (own_r_wider A (own_r_pick A p0) (own_r_pick A p1) (p0 &&& (3 : Int32)) (p1 &&& (3 : Int32)))))] [(.int (own_r_isExact A (own_r_wider A (own_r_pick A p0) (own_r_pick A p1) (p0 &&& (3 : Int32)) (p1 &&& (3 : Int32)))))]))
      refine own_by (fun _ zz => XS.iload X8.here hx rfl (hb hby at_81) rfl zz) ?_
      show own_Goes p e below _ (T8.setTop (mkF m 83 #[.val (.int p0), .val (.int p1), .val (.ref (own_r_pick A p0)), .val (.ref (own_r_pick A p1)), .val (.int (own_r_isExact A (own_r_pick A p0))), .val (.int (own_r_isExact A (own_r_pick A p1))), .val (.int (1 : Int32)), .val (.int (1 : Int32)), .val (.int (own_r_isExact A (own_r_wider A (own_r_pick A p0) (own_r_pick A p1) (p0 &&& (3 : Int32)) (p1 &&& (3 : Int32)))))] [(.int (own_r_isExact A (own_r_pick A p1))), (.int (own_r_isExact A (own_r_wider A (own_r_pick A p0) (own_r_pick A p1) (p0 &&& (3 : Int32)) (p1 &&& (3 : Int32)))))]))
      refine own_by (fun _ zz => XS.ifNo X8.here hx rfl (hb hby at_83) rfl (XT.i0_eq_f (by rw [own_ie W p1, if_pos q6]; decide)) zz) ?_
      show own_Goes p e below _ (T8.setTop (mkF m 86 #[.val (.int p0), .val (.int p1), .val (.ref (own_r_pick A p0)), .val (.ref (own_r_pick A p1)), .val (.int (own_r_isExact A (own_r_pick A p0))), .val (.int (own_r_isExact A (own_r_pick A p1))), .val (.int (1 : Int32)), .val (.int (1 : Int32)), .val (.int (own_r_isExact A (own_r_wider A (own_r_pick A p0) (own_r_pick A p1) (p0 &&& (3 : Int32)) (p1 &&& (3 : Int32)))))] [(.int (own_r_isExact A (own_r_wider A (own_r_pick A p0) (own_r_pick A p1) (p0 &&& (3 : Int32)) (p1 &&& (3 : Int32)))))]))
      refine own_by (fun _ zz => XS.iconst X8.here hx rfl (hb hby at_86) zz) ?_
      show own_Goes p e below _ (T8.setTop (mkF m 87 #[.val (.int p0), .val (.int p1), .val (.ref (own_r_pick A p0)), .val (.ref (own_r_pick A p1)), .val (.int (own_r_isExact A (own_r_pick A p0))), .val (.int (own_r_isExact A (own_r_pick A p1))), .val (.int (1 : Int32)), .val (.int (1 : Int32)), .val (.int (own_r_isExact A (own_r_wider A (own_r_pick A p0) (own_r_pick A p1) (p0 &&& (3 : Int32)) (p1 &&& (3 : Int32)))))] [(.int (1 : Int32)), (.int (own_r_isExact A (own_r_wider A (own_r_pick A p0) (own_r_pick A p1) (p0 &&& (3 : Int32)) (p1 &&& (3 : Int32)))))]))
      refine own_by (fun _ zz => XS.goto X8.here hx rfl (pc0 := 87) (pc' := 91) rfl (hb hby at_87) (by decide) (by decide) zz) ?_
      show own_Goes p e below _ (T8.setTop (mkF m 91 #[.val (.int p0), .val (.int p1), .val (.ref (own_r_pick A p0)), .val (.ref (own_r_pick A p1)), .val (.int (own_r_isExact A (own_r_pick A p0))), .val (.int (own_r_isExact A (own_r_pick A p1))), .val (.int (1 : Int32)), .val (.int (1 : Int32)), .val (.int (own_r_isExact A (own_r_wider A (own_r_pick A p0) (own_r_pick A p1) (p0 &&& (3 : Int32)) (p1 &&& (3 : Int32)))))] [(.int (1 : Int32)), (.int (own_r_isExact A (own_r_wider A (own_r_pick A p0) (own_r_pick A p1) (p0 &&& (3 : Int32)) (p1 &&& (3 : Int32)))))]))
      refine own_by (fun _ zz => XS.icmpNo X8.here hx rfl (hb hby at_91) rfl (XT.ii_ne_f (by rw [own_iw W p0 p1, if_pos q5, if_pos q6])) zz) ?_
      show own_Goes p e below _ (T8.setTop (mkF m 94 #[.val (.int p0), .val (.int p1), .val (.ref (own_r_pick A p0)), .val (.ref (own_r_pick A p1)), .val (.int (own_r_isExact A (own_r_pick A p0))), .val (.int (own_r_isExact A (own_r_pick A p1))), .val (.int (1 : Int32)), .val (.int (1 : Int32)), .val (.int (own_r_isExact A (own_r_wider A (own_r_pick A p0) (own_r_pick A p1) (p0 &&& (3 : Int32)) (p1 &&& (3 : Int32)))))] []))
      refine own_by (fun _ zz => XS.iconst X8.here hx rfl (hb hby at_94) zz) ?_
      show own_Goes p e below _ (T8.setTop (mkF m 95 #[.val (.int p0), .val (.int p1), .val (.ref (own_r_pick A p0)), .val (.ref (own_r_pick A p1)), .val (.int (own_r_isExact A (own_r_pick A p0))), .val (.int (own_r_isExact A (own_r_pick A p1))), .val (.int (1 : Int32)), .val (.int (1 : Int32)), .val (.int (own_r_isExact A (own_r_wider A (own_r_pick A p0) (own_r_pick A p1) (p0 &&& (3 : Int32)) (p1 &&& (3 : Int32)))))] [(.int (1 : Int32))]))
      refine own_by (fun _ zz => XS.goto X8.here hx rfl (pc0 := 95) (pc' := 99) rfl (hb hby at_95) (by decide) (by decide) zz) ?_
      show own_Goes p e below _ (T8.setTop (mkF m 99 #[.val (.int p0), .val (.int p1), .val (.ref (own_r_pick A p0)), .val (.ref (own_r_pick A p1)), .val (.int (own_r_isExact A (own_r_pick A p0))), .val (.int (own_r_isExact A (own_r_pick A p1))), .val (.int (1 : Int32)), .val (.int (1 : Int32)), .val (.int (own_r_isExact A (own_r_wider A (own_r_pick A p0) (own_r_pick A p1) (p0 &&& (3 : Int32)) (p1 &&& (3 : Int32)))))] [(.int (1 : Int32))]))
      refine own_retN X8 hx hlk (ty := .boolean) hret (by simp) (hb hby at_99) (by decide) (by decide) ?_
      exact ⟨rfl, rfl⟩
    · refine own_by (fun _ zz => XS.icmpYes X4.here hx rfl (pc0 := 40) (pc' := 47) rfl (hb hby at_40) rfl (XT.ii_ge_t q6) (by decide) (by decide) zz) ?_
      show own_Goes p e below _ (T4.setTop (mkF m 47 #[.val (.int p0), .val (.int p1), .val (.ref (own_r_pick A p0)), .val (.ref (own_r_pick A p1)), .val (.int (own_r_isExact A (own_r_pick A p0))), .val (.int (own_r_isExact A (own_r_pick A p1))), .val (.int (1 : Int32)), .unset, .unset] []))
      refine own_by (fun _ zz => XS.iconst X4.here hx rfl (hb hby at_47) zz) ?_
      show own_Goes p e below _ (T4.setTop (mkF m 48 #[.val (.int p0), .val (.int p1), .val (.ref (own_r_pick A p0)), .val (.ref (own_r_pick A p1)), .val (.int (own_r_isExact A (own_r_pick A p0))), .val (.int (own_r_isExact A (own_r_pick A p1))), .val (.int (1 : Int32)), .unset, .unset] [(.int (0 : Int32))]))
      refine own_by (fun _ zz => XS.istore X4.here hx rfl (hb hby at_48) rfl (l' := #[.val (.int p0), .val (.int p1), .val (.ref (own_r_pick A p0)), .val (.ref (own_r_pick A p1)), .val (.int (own_r_isExact A (own_r_pick A p0))), .val (.int (own_r_isExact A (own_r_pick A p1))), .val (.int (1 : Int32)), .val (.int (0 : Int32)), .unset]) rfl zz) ?_
      show own_Goes p e below _ (T4.setTop (mkF m 50 #[.val (.int p0), .val (.int p1), .val (.ref (own_r_pick A p0)), .val (.ref (own_r_pick A p1)), .val (.int (own_r_isExact A (own_r_pick A p0))), .val (.int (own_r_isExact A (own_r_pick A p1))), .val (.int (1 : Int32)), .val (.int (0 : Int32)), .unset] []))
      refine own_by (fun _ zz => XS.aloadN X4.here hx rfl (hb hby at_50) rfl rfl zz) ?_
      show own_Goes p e below _ (T4.setTop (mkF m 51 #[.val (.int p0), .val (.int p1), .val (.ref (own_r_pick A p0)), .val (.ref (own_r_pick A p1)), .val (.int (own_r_isExact A (own_r_pick A p0))), .val (.int (own_r_isExact A (own_r_pick A p1))), .val (.int (1 : Int32)), .val (.int (0 : Int32)), .unset] [(.ref (own_r_pick A p0))]))
      refine own_by (fun _ zz => XS.aloadN X4.here hx rfl (hb hby at_51) rfl rfl zz) ?_
      show own_Goes p e below _ (T4.setTop (mkF m 52 #[.val (.int p0), .val (.int p1), .val (.ref (own_r_pick A p0)), .val (.ref (own_r_pick A p1)), .val (.int (own_r_isExact A (own_r_pick A p0))), .val (.int (own_r_isExact A (own_r_pick A p1))), .val (.int (1 : Int32)), .val (.int (0 : Int32)), .unset] [(.ref (own_r_pick A p1)), (.ref (own_r_pick A p0))]))
      refine own_callS0 X4 hx hZ (W := 0) (argsL := [(.ref (own_r_pick A p0)), (.ref (own_r_pick A p1))]) (rest := []) hown (own_w17 hw) (own_w18 hw) (own_w5 hw) (own_w19 hw) (by decide) e4 (rm_wider l hw W (own_r_pick A p0) (own_r_pick A p1) (p0 &&& (3 : Int32)) (p1 &&& (3 : Int32)) m1 m2 m3 (own_pk W p0).1 (own_pk W p1).1 (own_pk W p0).2 (own_pk W p1).2) (by decide) (by decide) (by decide) (by decide) (by rw [hml]; rfl) (lenOf own_pd3 rfl) rfl (Nat.le_of_ble_eq_true rfl) (hb hby at_52) fun T9 X9 e9 => ?_
      show own_Goes p e below _ (T9.setTop (mkF m 55 #[.val (.int p0), .val (.int p1), .val (.ref (own_r_pick A p0)), .val (.ref (own_r_pick A p1)), .val (.int (own_r_isExact A (own_r_pick A p0))), .val (.int (own_r_isExact A (own_r_pick A p1))), .val (.int (1 : Int32)), .val (.int (0 : Int32)), .unset] [(.ref (own_r_wider A (own_r_pick A p0) (own_r_pick A p1) (p0 &&& (3 : Int32)) (p1 &&& (3 : Int32))))]))
      refine own_callV0 X9 hx hZ (W := 0) (K := "com/example/rillgraph/rillgraph/engine/Numeric$Type") (argsL := []) (rest := []) hown (own_w9 hw) (own_w10 hw) (own_w12 hw) (own_w11 hw) (own_w13 hw) (own_w5 hw) (by decide) e9 (own_exw W p0 p1) (rm_isExact l hw W (own_r_wider A (own_r_pick A p0) (own_r_pick A p1) (p0 &&& (3 : Int32)) (p1 &&& (3 : Int32)))) (by decide) (by decide) (by decide) (by decide) (by rw [hml]; rfl) (lenOf own_pd2 rfl) rfl (Nat.le_of_ble_eq_true rfl) (hb hby at_55) fun T10 X10 e10 => ?_
      show own_Goes p e below _ (T10.setTop (mkF m 58 #[.val (.int p0), .val (.int p1), .val (.ref (own_r_pick A p0)), .val (.ref (own_r_pick A p1)), .val (.int (own_r_isExact A (own_r_pick A p0))), .val (.int (own_r_isExact A (own_r_pick A p1))), .val (.int (1 : Int32)), .val (.int (0 : Int32)), .unset] [(.int (own_r_isExact A (own_r_wider A (own_r_pick A p0) (own_r_pick A p1) (p0 &&& (3 : Int32)) (p1 &&& (3 : Int32)))))]))
      refine own_by (fun _ zz => XS.istore X10.here hx rfl (hb hby at_58) rfl (l' := #[.val (.int p0), .val (.int p1), .val (.ref (own_r_pick A p0)), .val (.ref (own_r_pick A p1)), .val (.int (own_r_isExact A (own_r_pick A p0))), .val (.int (own_r_isExact A (own_r_pick A p1))), .val (.int (1 : Int32)), .val (.int (0 : Int32)), .val (.int (own_r_isExact A (own_r_wider A (own_r_pick A p0) (own_r_pick A p1) (p0 &&& (3 : Int32)) (p1 &&& (3 : Int32)))))]) rfl zz) ?_
      show own_Goes p e below _ (T10.setTop (mkF m 60 #[.val (.int p0), .val (.int p1), .val (.ref (own_r_pick A p0)), .val (.ref (own_r_pick A p1)), .val (.int (own_r_isExact A (own_r_pick A p0))), .val (.int (own_r_isExact A (own_r_pick A p1))), .val (.int (1 : Int32)), .val (.int (0 : Int32)), .val (.int (own_r_isExact A (own_r_wider A (own_r_pick A p0) (own_r_pick A p1) (p0 &&& (3 : Int32)) (p1 &&& (3 : Int32)))))] []))
      refine own_by (fun _ zz => XS.iload X10.here hx rfl (hb hby at_60) rfl zz) ?_
      show own_Goes p e below _ (T10.setTop (mkF m 62 #[.val (.int p0), .val (.int p1), .val (.ref (own_r_pick A p0)), .val (.ref (own_r_pick A p1)), .val (.int (own_r_isExact A (own_r_pick A p0))), .val (.int (own_r_isExact A (own_r_pick A p1))), .val (.int (1 : Int32)), .val (.int (0 : Int32)), .val (.int (own_r_isExact A (own_r_wider A (own_r_pick A p0) (own_r_pick A p1) (p0 &&& (3 : Int32)) (p1 &&& (3 : Int32)))))] [(.int (own_r_isExact A (own_r_pick A p0)))]))
      refine own_by (fun _ zz => XS.iload X10.here hx rfl (hb hby at_62) rfl zz) ?_
      show own_Goes p e below _ (T10.setTop (mkF m 64 #[.val (.int p0), .val (.int p1), .val (.ref (own_r_pick A p0)), .val (.ref (own_r_pick A p1)), .val (.int (own_r_isExact A (own_r_pick A p0))), .val (.int (own_r_isExact A (own_r_pick A p1))), .val (.int (1 : Int32)), .val (.int (0 : Int32)), .val (.int (own_r_isExact A (own_r_wider A (own_r_pick A p0) (own_r_pick A p1) (p0 &&& (3 : Int32)) (p1 &&& (3 : Int32)))))] [(.int (1 : Int32)), (.int (own_r_isExact A (own_r_pick A p0)))]))
      refine own_by (fun _ zz => XS.icmpNo X10.here hx rfl (hb hby at_64) rfl (XT.ii_ne_f (by rw [own_ie W p0, if_pos q5])) zz) ?_
      show own_Goes p e below _ (T10.setTop (mkF m 67 #[.val (.int p0), .val (.int p1), .val (.ref (own_r_pick A p0)), .val (.ref (own_r_pick A p1)), .val (.int (own_r_isExact A (own_r_pick A p0))), .val (.int (own_r_isExact A (own_r_pick A p1))), .val (.int (1 : Int32)), .val (.int (0 : Int32)), .val (.int (own_r_isExact A (own_r_wider A (own_r_pick A p0) (own_r_pick A p1) (p0 &&& (3 : Int32)) (p1 &&& (3 : Int32)))))] []))
      refine own_by (fun _ zz => XS.iload X10.here hx rfl (hb hby at_67) rfl zz) ?_
      show own_Goes p e below _ (T10.setTop (mkF m 69 #[.val (.int p0), .val (.int p1), .val (.ref (own_r_pick A p0)), .val (.ref (own_r_pick A p1)), .val (.int (own_r_isExact A (own_r_pick A p0))), .val (.int (own_r_isExact A (own_r_pick A p1))), .val (.int (1 : Int32)), .val (.int (0 : Int32)), .val (.int (own_r_isExact A (own_r_wider A (own_r_pick A p0) (own_r_pick A p1) (p0 &&& (3 : Int32)) (p1 &&& (3 : Int32)))))] [(.int (own_r_isExact A (own_r_pick A p1)))]))
      refine own_by (fun _ zz => XS.iload X10.here hx rfl (hb hby at_69) rfl zz) ?_
      show own_Goes p e below _ (T10.setTop (mkF m 71 #[.val (.int p0), .val (.int p1), .val (.ref (own_r_pick A p0)), .val (.ref (own_r_pick A p1)), .val (.int (own_r_isExact A (own_r_pick A p0))), .val (.int (own_r_isExact A (own_r_pick A p1))), .val (.int (1 : Int32)), .val (.int (0 : Int32)), .val (.int (own_r_isExact A (own_r_wider A (own_r_pick A p0) (own_r_pick A p1) (p0 &&& (3 : Int32)) (p1 &&& (3 : Int32)))))] [(.int (0 : Int32)), (.int (own_r_isExact A (own_r_pick A p1)))]))
      refine own_by (fun _ zz => XS.icmpNo X10.here hx rfl (hb hby at_71) rfl (XT.ii_ne_f (by rw [own_ie W p1, if_neg q6])) zz) ?_
      show own_Goes p e below _ (T10.setTop (mkF m 74 #[.val (.int p0), .val (.int p1), .val (.ref (own_r_pick A p0)), .val (.ref (own_r_pick A p1)), .val (.int (own_r_isExact A (own_r_pick A p0))), .val (.int (own_r_isExact A (own_r_pick A p1))), .val (.int (1 : Int32)), .val (.int (0 : Int32)), .val (.int (own_r_isExact A (own_r_wider A (own_r_pick A p0) (own_r_pick A p1) (p0 &&& (3 : Int32)) (p1 &&& (3 : Int32)))))] []))
      refine own_by (fun _ zz => XS.iload X10.here hx rfl (hb hby at_74) rfl zz) ?_
      show own_Goes p e below _ (T10.setTop (mkF m 76 #[.val (.int p0), .val (.int p1), .val (.ref (own_r_pick A p0)), .val (.ref (own_r_pick A p1)), .val (.int (own_r_isExact A (own_r_pick A p0))), .val (.int (own_r_isExact A (own_r_pick A p1))), .val (.int (1 : Int32)), .val (.int (0 : Int32)), .val (.int (own_r_isExact A (own_r_wider A (own_r_pick A p0) (own_r_pick A p1) (p0 &&& (3 : Int32)) (p1 &&& (3 : Int32)))))] [(.int (own_r_isExact A (own_r_wider A (own_r_pick A p0) (own_r_pick A p1) (p0 &&& (3 : Int32)) (p1 &&& (3 : Int32)))))]))
      refine own_by (fun _ zz => XS.iload X10.here hx rfl (hb hby at_76) rfl zz) ?_
      show own_Goes p e below _ (T10.setTop (mkF m 78 #[.val (.int p0), .val (.int p1), .val (.ref (own_r_pick A p0)), .val (.ref (own_r_pick A p1)), .val (.int (own_r_isExact A (own_r_pick A p0))), .val (.int (own_r_isExact A (own_r_pick A p1))), .val (.int (1 : Int32)), .val (.int (0 : Int32)), .val (.int (own_r_isExact A (own_r_wider A (own_r_pick A p0) (own_r_pick A p1) (p0 &&& (3 : Int32)) (p1 &&& (3 : Int32)))))] [(.int (own_r_isExact A (own_r_pick A p0))), (.int (own_r_isExact A (own_r_wider A (own_r_pick A p0) (own_r_pick A p1) (p0 &&& (3 : Int32)) (p1 &&& (3 : Int32)))))]))
      refine own_by (fun _ zz => XS.ifNo X10.here hx rfl (hb hby at_78) rfl (XT.i0_eq_f (by rw [own_ie W p0, if_pos q5]; decide)) zz) ?_
      show own_Goes p e below _ (T10.setTop (mkF m 81 #[.val (.int p0), .val (.int p1), .val (.ref (own_r_pick A p0)), .val (.ref (own_r_pick A p1)), .val (.int (own_r_isExact A (own_r_pick A p0))), .val (.int (own_r_isExact A (own_r_pick A p1))), .val (.int (1 : Int32)), .val (.int (0 : Int32)), .val (.int (own_r_isExact A (own_r_wider A (own_r_pick A p0) (own_r_pick A p1) (p0 &&& (3 : Int32)) (p1 &&& (3 : Int32)))))] [(.int (own_r_isExact A (own_r_wider A (own_r_pick A p0) (own_r_pick A p1) (p0 &&& (3 : Int32)) (p1 &&& (3 : Int32)))))]))
      refine own_by (fun _ zz => XS.iload X10.here hx rfl (hb hby at_81) rfl zz) ?_
      show own_Goes p e below _ (T10.setTop (mkF m 83 #[.val (.int p0), .val (.int p1), .val (.ref (own_r_pick A p0)), .val (.ref (own_r_pick A p1)), .val (.int (own_r_isExact A (own_r_pick A p0))), .val (.int (own_r_isExact A (own_r_pick A p1))), .val (.int (1 : Int32)), .val (.int (0 : Int32)), .val (.int (own_r_isExact A (own_r_wider A (own_r_pick A p0) (own_r_pick A p1) (p0 &&& (3 : Int32)) (p1 &&& (3 : Int32)))))] [(.int (own_r_isExact A (own_r_pick A p1))), (.int (own_r_isExact A (own_r_wider A (own_r_pick A p0) (own_r_pick A p1) (p0 &&& (3 : Int32)) (p1 &&& (3 : Int32)))))]))
      refine own_by (fun _ zz => XS.ifYes X10.here hx rfl (pc0 := 83) (pc' := 90) rfl (hb hby at_83) rfl (XT.i0_eq_t (by rw [own_ie W p1, if_neg q6])) (by decide) (by decide) zz) ?_
      show own_Goes p e below _ (T10.setTop (mkF m 90 #[.val (.int p0), .val (.int p1), .val (.ref (own_r_pick A p0)), .val (.ref (own_r_pick A p1)), .val (.int (own_r_isExact A (own_r_pick A p0))), .val (.int (own_r_isExact A (own_r_pick A p1))), .val (.int (1 : Int32)), .val (.int (0 : Int32)), .val (.int (own_r_isExact A (own_r_wider A (own_r_pick A p0) (own_r_pick A p1) (p0 &&& (3 : Int32)) (p1 &&& (3 : Int32)))))] [(.int (own_r_isExact A (own_r_wider A (own_r_pick A p0) (own_r_pick A p1) (p0 &&& (3 : Int32)) (p1 &&& (3 : Int32)))))]))
      refine own_by (fun _ zz => XS.iconst X10.here hx rfl (hb hby at_90) zz) ?_
      show own_Goes p e below _ (T10.setTop (mkF m 91 #[.val (.int p0), .val (.int p1), .val (.ref (own_r_pick A p0)), .val (.ref (own_r_pick A p1)), .val (.int (own_r_isExact A (own_r_pick A p0))), .val (.int (own_r_isExact A (own_r_pick A p1))), .val (.int (1 : Int32)), .val (.int (0 : Int32)), .val (.int (own_r_isExact A (own_r_wider A (own_r_pick A p0) (own_r_pick A p1) (p0 &&& (3 : Int32)) (p1 &&& (3 : Int32)))))] [(.int (0 : Int32)), (.int (own_r_isExact A (own_r_wider A (own_r_pick A p0) (own_r_pick A p1) (p0 &&& (3 : Int32)) (p1 &&& (3 : Int32)))))]))
      refine own_by (fun _ zz => XS.icmpNo X10.here hx rfl (hb hby at_91) rfl (XT.ii_ne_f (by rw [own_iw W p0 p1, if_pos q5, if_neg q6])) zz) ?_
      show own_Goes p e below _ (T10.setTop (mkF m 94 #[.val (.int p0), .val (.int p1), .val (.ref (own_r_pick A p0)), .val (.ref (own_r_pick A p1)), .val (.int (own_r_isExact A (own_r_pick A p0))), .val (.int (own_r_isExact A (own_r_pick A p1))), .val (.int (1 : Int32)), .val (.int (0 : Int32)), .val (.int (own_r_isExact A (own_r_wider A (own_r_pick A p0) (own_r_pick A p1) (p0 &&& (3 : Int32)) (p1 &&& (3 : Int32)))))] []))
      refine own_by (fun _ zz => XS.iconst X10.here hx rfl (hb hby at_94) zz) ?_
      show own_Goes p e below _ (T10.setTop (mkF m 95 #[.val (.int p0), .val (.int p1), .val (.ref (own_r_pick A p0)), .val (.ref (own_r_pick A p1)), .val (.int (own_r_isExact A (own_r_pick A p0))), .val (.int (own_r_isExact A (own_r_pick A p1))), .val (.int (1 : Int32)), .val (.int (0 : Int32)), .val (.int (own_r_isExact A (own_r_wider A (own_r_pick A p0) (own_r_pick A p1) (p0 &&& (3 : Int32)) (p1 &&& (3 : Int32)))))] [(.int (1 : Int32))]))
      refine own_by (fun _ zz => XS.goto X10.here hx rfl (pc0 := 95) (pc' := 99) rfl (hb hby at_95) (by decide) (by decide) zz) ?_
      show own_Goes p e below _ (T10.setTop (mkF m 99 #[.val (.int p0), .val (.int p1), .val (.ref (own_r_pick A p0)), .val (.ref (own_r_pick A p1)), .val (.int (own_r_isExact A (own_r_pick A p0))), .val (.int (own_r_isExact A (own_r_pick A p1))), .val (.int (1 : Int32)), .val (.int (0 : Int32)), .val (.int (own_r_isExact A (own_r_wider A (own_r_pick A p0) (own_r_pick A p1) (p0 &&& (3 : Int32)) (p1 &&& (3 : Int32)))))] [(.int (1 : Int32))]))
      refine own_retN X10 hx hlk (ty := .boolean) hret (by simp) (hb hby at_99) (by decide) (by decide) ?_
      exact ⟨rfl, rfl⟩
  · refine own_by (fun _ zz => XS.icmpYes X4.here hx rfl (pc0 := 26) (pc' := 33) rfl (hb hby at_26) rfl (XT.ii_ge_t q5) (by decide) (by decide) zz) ?_
    show own_Goes p e below _ (T4.setTop (mkF m 33 #[.val (.int p0), .val (.int p1), .val (.ref (own_r_pick A p0)), .val (.ref (own_r_pick A p1)), .val (.int (own_r_isExact A (own_r_pick A p0))), .val (.int (own_r_isExact A (own_r_pick A p1))), .unset, .unset, .unset] []))
    refine own_by (fun _ zz => XS.iconst X4.here hx rfl (hb hby at_33) zz) ?_
    show own_Goes p e below _ (T4.setTop (mkF m 34 #[.val (.int p0), .val (.int p1), .val (.ref (own_r_pick A p0)), .val (.ref (own_r_pick A p1)), .val (.int (own_r_isExact A (own_r_pick A p0))), .val (.int (own_r_isExact A (own_r_pick A p1))), .unset, .unset, .unset] [(.int (0 : Int32))]))
    refine own_by (fun _ zz => XS.istore X4.here hx rfl (hb hby at_34) rfl (l' := #[.val (.int p0), .val (.int p1), .val (.ref (own_r_pick A p0)), .val (.ref (own_r_pick A p1)), .val (.int (own_r_isExact A (own_r_pick A p0))), .val (.int (own_r_isExact A (own_r_pick A p1))), .val (.int (0 : Int32)), .unset, .unset]) rfl zz) ?_
    show own_Goes p e below _ (T4.setTop (mkF m 36 #[.val (.int p0), .val (.int p1), .val (.ref (own_r_pick A p0)), .val (.ref (own_r_pick A p1)), .val (.int (own_r_isExact A (own_r_pick A p0))), .val (.int (own_r_isExact A (own_r_pick A p1))), .val (.int (0 : Int32)), .unset, .unset] []))
    refine own_by (fun _ zz => XS.iloadN X4.here hx rfl (hb hby at_36) rfl zz) ?_
    show own_Goes p e below _ (T4.setTop (mkF m 37 #[.val (.int p0), .val (.int p1), .val (.ref (own_r_pick A p0)), .val (.ref (own_r_pick A p1)), .val (.int (own_r_isExact A (own_r_pick A p0))), .val (.int (own_r_isExact A (own_r_pick A p1))), .val (.int (0 : Int32)), .unset, .unset] [(.int p1)]))
    refine own_by (fun _ zz => XS.iconst X4.here hx rfl (hb hby at_37) zz) ?_
    show own_Goes p e below _ (T4.setTop (mkF m 38 #[.val (.int p0), .val (.int p1), .val (.ref (own_r_pick A p0)), .val (.ref (own_r_pick A p1)), .val (.int (own_r_isExact A (own_r_pick A p0))), .val (.int (own_r_isExact A (own_r_pick A p1))), .val (.int (0 : Int32)), .unset, .unset] [(.int (3 : Int32)), (.int p1)]))
    refine own_by (fun _ zz => XS.iand X4.here hx rfl (hb hby at_38) rfl zz) ?_
    show own_Goes p e below _ (T4.setTop (mkF m 39 #[.val (.int p0), .val (.int p1), .val (.ref (own_r_pick A p0)), .val (.ref (own_r_pick A p1)), .val (.int (own_r_isExact A (own_r_pick A p0))), .val (.int (own_r_isExact A (own_r_pick A p1))), .val (.int (0 : Int32)), .unset, .unset] [(.int (p1 &&& (3 : Int32)))]))
    refine own_by (fun _ zz => XS.iconst X4.here hx rfl (hb hby at_39) zz) ?_
    show own_Goes p e below _ (T4.setTop (mkF m 40 #[.val (.int p0), .val (.int p1), .val (.ref (own_r_pick A p0)), .val (.ref (own_r_pick A p1)), .val (.int (own_r_isExact A (own_r_pick A p0))), .val (.int (own_r_isExact A (own_r_pick A p1))), .val (.int (0 : Int32)), .unset, .unset] [(.int (2 : Int32)), (.int (p1 &&& (3 : Int32)))]))
    by_cases q11 : (p1 &&& (3 : Int32)) < (2 : Int32)
    · refine own_by (fun _ zz => XS.icmpNo X4.here hx rfl (hb hby at_40) rfl (XT.ii_ge_f q11) zz) ?_
      show own_Goes p e below _ (T4.setTop (mkF m 43 #[.val (.int p0), .val (.int p1), .val (.ref (own_r_pick A p0)), .val (.ref (own_r_pick A p1)), .val (.int (own_r_isExact A (own_r_pick A p0))), .val (.int (own_r_isExact A (own_r_pick A p1))), .val (.int (0 : Int32)), .unset, .unset] []))
      refine own_by (fun _ zz => XS.iconst X4.here hx rfl (hb hby at_43) zz) ?_
      show own_Goes p e below _ (T4.setTop (mkF m 44 #[.val (.int p0), .val (.int p1), .val (.ref (own_r_pick A p0)), .val (.ref (own_r_pick A p1)), .val (.int (own_r_isExact A (own_r_pick A p0))), .val (.int (own_r_isExact A (own_r_pick A p1))), .val (.int (0 : Int32)), .unset, .unset] [(.int (1 : Int32))]))
      refine own_by (fun _ zz => XS.goto X4.here hx rfl (pc0 := 44) (pc' := 48) rfl (hb hby at_44) (by decide) (by decide) zz) ?_
      show own_Goes p e below _ (T4.setTop (mkF m 48 #[.val (.int p0), .val (.int p1), .val (.ref (own_r_pick A p0)), .val (.ref (own_r_pick A p1)), .val (.int (own_r_isExact A (own_r_pick A p0))), .val (.int (own_r_isExact A (own_r_pick A p1))), .val (.int (0 : Int32)), .unset, .unset] [(.int (1 : Int32))]))
      refine own_by (fun _ zz => XS.istore X4.here hx rfl (hb hby at_48) rfl (l' := #[.val (.int p0), .val (.int p1), .val (.ref (own_r_pick A p0)), .val (.ref (own_r_pick A p1)), .val (.int (own_r_isExact A (own_r_pick A p0))), .val (.int (own_r_isExact A (own_r_pick A p1))), .val (.int (0 : Int32)), .val (.int (1 : Int32)), .unset]) rfl zz) ?_
      show own_Goes p e below _ (T4.setTop (mkF m 50 #[.val (.int p0), .val (.int p1), .val (.ref (own_r_pick A p0)), .val (.ref (own_r_pick A p1)), .val (.int (own_r_isExact A (own_r_pick A p0))), .val (.int (own_r_isExact A (own_r_pick A p1))), .val (.int (0 : Int32)), .val (.int (1 : Int32)), .unset] []))
      refine own_by (fun _ zz => XS.aloadN X4.here hx rfl (hb hby at_50) rfl rfl zz) ?_
      show own_Goes p e below _ (T4.setTop (mkF m 51 #[.val (.int p0), .val (.int p1), .val (.ref (own_r_pick A p0)), .val (.ref (own_r_pick A p1)), .val (.int (own_r_isExact A (own_r_pick A p0))), .val (.int (own_r_isExact A (own_r_pick A p1))), .val (.int (0 : Int32)), .val (.int (1 : Int32)), .unset] [(.ref (own_r_pick A p0))]))
      refine own_by (fun _ zz => XS.aloadN X4.here hx rfl (hb hby at_51) rfl rfl zz) ?_
      show own_Goes p e below _ (T4.setTop (mkF m 52 #[.val (.int p0), .val (.int p1), .val (.ref (own_r_pick A p0)), .val (.ref (own_r_pick A p1)), .val (.int (own_r_isExact A (own_r_pick A p0))), .val (.int (own_r_isExact A (own_r_pick A p1))), .val (.int (0 : Int32)), .val (.int (1 : Int32)), .unset] [(.ref (own_r_pick A p1)), (.ref (own_r_pick A p0))]))
      refine own_callS0 X4 hx hZ (W := 0) (argsL := [(.ref (own_r_pick A p0)), (.ref (own_r_pick A p1))]) (rest := []) hown (own_w17 hw) (own_w18 hw) (own_w5 hw) (own_w19 hw) (by decide) e4 (rm_wider l hw W (own_r_pick A p0) (own_r_pick A p1) (p0 &&& (3 : Int32)) (p1 &&& (3 : Int32)) m1 m2 m3 (own_pk W p0).1 (own_pk W p1).1 (own_pk W p0).2 (own_pk W p1).2) (by decide) (by decide) (by decide) (by decide) (by rw [hml]; rfl) (lenOf own_pd3 rfl) rfl (Nat.le_of_ble_eq_true rfl) (hb hby at_52) fun T12 X12 e12 => ?_
      show own_Goes p e below _ (T12.setTop (mkF m 55 #[.val (.int p0), .val (.int p1), .val (.ref (own_r_pick A p0)), .val (.ref (own_r_pick A p1)), .val (.int (own_r_isExact A (own_r_pick A p0))), .val (.int (own_r_isExact A (own_r_pick A p1))), .val (.int (0 : Int32)), .val (.int (1 : Int32)), .unset] [(.ref (own_r_wider A (own_r_pick A p0) (own_r_pick A p1) (p0 &&& (3 : Int32)) (p1 &&& (3 : Int32))))]))
      refine own_callV0 X12 hx hZ (W := 0) (K := "com/example/rillgraph/rillgraph/engine/Numeric$Type") (argsL := []) (rest := []) hown (own_w9 hw) (own_w10 hw) (own_w12 hw) (own_w11 hw) (own_w13 hw) (own_w5 hw) (by decide) e12 (own_exw W p0 p1) (rm_isExact l hw W (own_r_wider A (own_r_pick A p0) (own_r_pick A p1) (p0 &&& (3 : Int32)) (p1 &&& (3 : Int32)))) (by decide) (by decide) (by decide) (by decide) (by rw [hml]; rfl) (lenOf own_pd2 rfl) rfl (Nat.le_of_ble_eq_true rfl) (hb hby at_55) fun T13 X13 e13 => ?_
      show own_Goes p e below _ (T13.setTop (mkF m 58 #[.val (.int p0), .val (.int p1), .val (.ref (own_r_pick A p0)), .val (.ref (own_r_pick A p1)), .val (.int (own_r_isExact A (own_r_pick A p0))), .val (.int (own_r_isExact A (own_r_pick A p1))), .val (.int (0 : Int32)), .val (.int (1 : Int32)), .unset] [(.int (own_r_isExact A (own_r_wider A (own_r_pick A p0) (own_r_pick A p1) (p0 &&& (3 : Int32)) (p1 &&& (3 : Int32)))))]))
      refine own_by (fun _ zz => XS.istore X13.here hx rfl (hb hby at_58) rfl (l' := #[.val (.int p0), .val (.int p1), .val (.ref (own_r_pick A p0)), .val (.ref (own_r_pick A p1)), .val (.int (own_r_isExact A (own_r_pick A p0))), .val (.int (own_r_isExact A (own_r_pick A p1))), .val (.int (0 : Int32)), .val (.int (1 : Int32)), .val (.int (own_r_isExact A (own_r_wider A (own_r_pick A p0) (own_r_pick A p1) (p0 &&& (3 : Int32)) (p1 &&& (3 : Int32)))))]) rfl zz) ?_
      show own_Goes p e below _ (T13.setTop (mkF m 60 #[.val (.int p0), .val (.int p1), .val (.ref (own_r_pick A p0)), .val (.ref (own_r_pick A p1)), .val (.int (own_r_isExact A (own_r_pick A p0))), .val (.int (own_r_isExact A (own_r_pick A p1))), .val (.int (0 : Int32)), .val (.int (1 : Int32)), .val (.int (own_r_isExact A (own_r_wider A (own_r_pick A p0) (own_r_pick A p1) (p0 &&& (3 : Int32)) (p1 &&& (3 : Int32)))))] []))
      refine own_by (fun _ zz => XS.iload X13.here hx rfl (hb hby at_60) rfl zz) ?_
      show own_Goes p e below _ (T13.setTop (mkF m 62 #[.val (.int p0), .val (.int p1), .val (.ref (own_r_pick A p0)), .val (.ref (own_r_pick A p1)), .val (.int (own_r_isExact A (own_r_pick A p0))), .val (.int (own_r_isExact A (own_r_pick A p1))), .val (.int (0 : Int32)), .val (.int (1 : Int32)), .val (.int (own_r_isExact A (own_r_wider A (own_r_pick A p0) (own_r_pick A p1) (p0 &&& (3 : Int32)) (p1 &&& (3 : Int32)))))] [(.int (own_r_isExact A (own_r_pick A p0)))]))
      refine own_by (fun _ zz => XS.iload X13.here hx rfl (hb hby at_62) rfl zz) ?_
      show own_Goes p e below _ (T13.setTop (mkF m 64 #[.val (.int p0), .val (.int p1), .val (.ref (own_r_pick A p0)), .val (.ref (own_r_pick A p1)), .val (.int (own_r_isExact A (own_r_pick A p0))), .val (.int (own_r_isExact A (own_r_pick A p1))), .val (.int (0 : Int32)), .val (.int (1 : Int32)), .val (.int (own_r_isExact A (own_r_wider A (own_r_pick A p0) (own_r_pick A p1) (p0 &&& (3 : Int32)) (p1 &&& (3 : Int32)))))] [(.int (0 : Int32)), (.int (own_r_isExact A (own_r_pick A p0)))]))
      refine own_by (fun _ zz => XS.icmpNo X13.here hx rfl (hb hby at_64) rfl (XT.ii_ne_f (by rw [own_ie W p0, if_neg q5])) zz) ?_
      show own_Goes p e below _ (T13.setTop (mkF m 67 #[.val (.int p0), .val (.int p1), .val (.ref (own_r_pick A p0)), .val (.ref (own_r_pick A p1)), .val (.int (own_r_isExact A (own_r_pick A p0))), .val (.int (own_r_isExact A (own_r_pick A p1))), .val (.int (0 : Int32)), .val (.int (1 : Int32)), .val (.int (own_r_isExact A (own_r_wider A (own_r_pick A p0) (own_r_pick A p1) (p0 &&& (3 : Int32)) (p1 &&& (3 : Int32)))))] []))
      refine own_by (fun _ zz => XS.iload X13.here hx rfl (hb hby at_67) rfl zz) ?_
      show own_Goes p e below _ (T13.setTop (mkF m 69 #[.val (.int p0), .val (.int p1), .val (.ref (own_r_pick A p0)), .val (.ref (own_r_pick A p1)), .val (.int (own_r_isExact A (own_r_pick A p0))), .val (.int (own_r_isExact A (own_r_pick A p1))), .val (.int (0 : Int32)), .val (.int (1 : Int32)), .val (.int (own_r_isExact A (own_r_wider A (own_r_pick A p0) (own_r_pick A p1) (p0 &&& (3 : Int32)) (p1 &&& (3 : Int32)))))] [(.int (own_r_isExact A (own_r_pick A p1)))]))
      refine own_by (fun _ zz => XS.iload X13.here hx rfl (hb hby at_69) rfl zz) ?_
      show own_Goes p e below _ (T13.setTop (mkF m 71 #[.val (.int p0), .val (.int p1), .val (.ref (own_r_pick A p0)), .val (.ref (own_r_pick A p1)), .val (.int (own_r_isExact A (own_r_pick A p0))), .val (.int (own_r_isExact A (own_r_pick A p1))), .val (.int (0 : Int32)), .val (.int (1 : Int32)), .val (.int (own_r_isExact A (own_r_wider A (own_r_pick A p0) (own_r_pick A p1) (p0 &&& (3 : Int32)) (p1 &&& (3 : Int32)))))] [(.int (1 : Int32)), (.int (own_r_isExact A (own_r_pick A p1)))]))
      refine own_by (fun _ zz => XS.icmpNo X13.here hx rfl (hb hby at_71) rfl (XT.ii_ne_f (by rw [own_ie W p1, if_pos q11])) zz) ?_
      show own_Goes p e below _ (T13.setTop (mkF m 74 #[.val (.int p0), .val (.int p1), .val (.ref (own_r_pick A p0)), .val (.ref (own_r_pick A p1)), .val (.int (own_r_isExact A (own_r_pick A p0))), .val (.int (own_r_isExact A (own_r_pick A p1))), .val (.int (0 : Int32)), .val (.int (1 : Int32)), .val (.int (own_r_isExact A (own_r_wider A (own_r_pick A p0) (own_r_pick A p1) (p0 &&& (3 : Int32)) (p1 &&& (3 : Int32)))))] []))
      refine own_by (fun _ zz => XS.iload X13.here hx rfl (hb hby at_74) rfl zz) ?_
      show own_Goes p e below _ (T13.setTop (mkF m 76 #[.val (.int p0), .val (.int p1), .val (.ref (own_r_pick A p0)), .val (.ref (own_r_pick A p1)), .val (.int (own_r_isExact A (own_r_pick A p0))), .val (.int (own_r_isExact A (own_r_pick A p1))), .val (.int (0 : Int32)), .val (.int (1 : Int32)), .val (.int (own_r_isExact A (own_r_wider A (own_r_pick A p0) (own_r_pick A p1) (p0 &&& (3 : Int32)) (p1 &&& (3 : Int32)))))] [(.int (own_r_isExact A (own_r_wider A (own_r_pick A p0) (own_r_pick A p1) (p0 &&& (3 : Int32)) (p1 &&& (3 : Int32)))))]))
      refine own_by (fun _ zz => XS.iload X13.here hx rfl (hb hby at_76) rfl zz) ?_
      show own_Goes p e below _ (T13.setTop (mkF m 78 #[.val (.int p0), .val (.int p1), .val (.ref (own_r_pick A p0)), .val (.ref (own_r_pick A p1)), .val (.int (own_r_isExact A (own_r_pick A p0))), .val (.int (own_r_isExact A (own_r_pick A p1))), .val (.int (0 : Int32)), .val (.int (1 : Int32)), .val (.int (own_r_isExact A (own_r_wider A (own_r_pick A p0) (own_r_pick A p1) (p0 &&& (3 : Int32)) (p1 &&& (3 : Int32)))))] [(.int (own_r_isExact A (own_r_pick A p0))), (.int (own_r_isExact A (own_r_wider A (own_r_pick A p0) (own_r_pick A p1) (p0 &&& (3 : Int32)) (p1 &&& (3 : Int32)))))]))
      refine own_by (fun _ zz => XS.ifYes X13.here hx rfl (pc0 := 78) (pc' := 90) rfl (hb hby at_78) rfl (XT.i0_eq_t (by rw [own_ie W p0, if_neg q5])) (by decide) (by decide) zz) ?_
      show own_Goes p e below _ (T13.setTop (mkF m 90 #[.val (.int p0), .val (.int p1), .val (.ref (own_r_pick A p0)), .val (.ref (own_r_pick A p1)), .val (.int (own_r_isExact A (own_r_pick A p0))), .val (.int (own_r_isExact A (own_r_pick A p1))), .val (.int (0 : Int32)), .val (.int (1 : Int32)), .val (.int (own_r_isExact A (own_r_wider A (own_r_pick A p0) (own_r_pick A p1) (p0 &&& (3 : Int32)) (p1 &&& (3 : Int32)))))] [(.int (own_r_isExact A (own_r_wider A (own_r_pick A p0) (own_r_pick A p1) (p0 &&& (3 : Int32)) (p1 &&& (3 : Int32)))))]))
      refine own_by (fun _ zz => XS.iconst X13.here hx rfl (hb hby at_90) zz) ?_
      show own_Goes p e below _ (T13.setTop (mkF m 91 #[.val (.int p0), .val (.int p1), .val (.ref (own_r_pick A p0)), .val (.ref (own_r_pick A p1)), .val (.int (own_r_isExact A (own_r_pick A p0))), .val (.int (own_r_isExact A (own_r_pick A p1))), .val (.int (0 : Int32)), .val (.int (1 : Int32)), .val (.int (own_r_isExact A (own_r_wider A (own_r_pick A p0) (own_r_pick A p1) (p0 &&& (3 : Int32)) (p1 &&& (3 : Int32)))))] [(.int (0 : Int32)), (.int (own_r_isExact A (own_r_wider A (own_r_pick A p0) (own_r_pick A p1) (p0 &&& (3 : Int32)) (p1 &&& (3 : Int32)))))]))
      refine own_by (fun _ zz => XS.icmpNo X13.here hx rfl (hb hby at_91) rfl (XT.ii_ne_f (by rw [own_iw W p0 p1, if_neg q5])) zz) ?_
      show own_Goes p e below _ (T13.setTop (mkF m 94 #[.val (.int p0), .val (.int p1), .val (.ref (own_r_pick A p0)), .val (.ref (own_r_pick A p1)), .val (.int (own_r_isExact A (own_r_pick A p0))), .val (.int (own_r_isExact A (own_r_pick A p1))), .val (.int (0 : Int32)), .val (.int (1 : Int32)), .val (.int (own_r_isExact A (own_r_wider A (own_r_pick A p0) (own_r_pick A p1) (p0 &&& (3 : Int32)) (p1 &&& (3 : Int32)))))] []))
      refine own_by (fun _ zz => XS.iconst X13.here hx rfl (hb hby at_94) zz) ?_
      show own_Goes p e below _ (T13.setTop (mkF m 95 #[.val (.int p0), .val (.int p1), .val (.ref (own_r_pick A p0)), .val (.ref (own_r_pick A p1)), .val (.int (own_r_isExact A (own_r_pick A p0))), .val (.int (own_r_isExact A (own_r_pick A p1))), .val (.int (0 : Int32)), .val (.int (1 : Int32)), .val (.int (own_r_isExact A (own_r_wider A (own_r_pick A p0) (own_r_pick A p1) (p0 &&& (3 : Int32)) (p1 &&& (3 : Int32)))))] [(.int (1 : Int32))]))
      refine own_by (fun _ zz => XS.goto X13.here hx rfl (pc0 := 95) (pc' := 99) rfl (hb hby at_95) (by decide) (by decide) zz) ?_
      show own_Goes p e below _ (T13.setTop (mkF m 99 #[.val (.int p0), .val (.int p1), .val (.ref (own_r_pick A p0)), .val (.ref (own_r_pick A p1)), .val (.int (own_r_isExact A (own_r_pick A p0))), .val (.int (own_r_isExact A (own_r_pick A p1))), .val (.int (0 : Int32)), .val (.int (1 : Int32)), .val (.int (own_r_isExact A (own_r_wider A (own_r_pick A p0) (own_r_pick A p1) (p0 &&& (3 : Int32)) (p1 &&& (3 : Int32)))))] [(.int (1 : Int32))]))
      refine own_retN X13 hx hlk (ty := .boolean) hret (by simp) (hb hby at_99) (by decide) (by decide) ?_
      exact ⟨rfl, rfl⟩
    · refine own_by (fun _ zz => XS.icmpYes X4.here hx rfl (pc0 := 40) (pc' := 47) rfl (hb hby at_40) rfl (XT.ii_ge_t q11) (by decide) (by decide) zz) ?_
      show own_Goes p e below _ (T4.setTop (mkF m 47 #[.val (.int p0), .val (.int p1), .val (.ref (own_r_pick A p0)), .val (.ref (own_r_pick A p1)), .val (.int (own_r_isExact A (own_r_pick A p0))), .val (.int (own_r_isExact A (own_r_pick A p1))), .val (.int (0 : Int32)), .unset, .unset] []))
      refine own_by (fun _ zz => XS.iconst X4.here hx rfl (hb hby at_47) zz) ?_
      show own_Goes p e below _ (T4.setTop (mkF m 48 #[.val (.int p0), .val (.int p1), .val (.ref (own_r_pick A p0)), .val (.ref (own_r_pick A p1)), .val (.int (own_r_isExact A (own_r_pick A p0))), .val (.int (own_r_isExact A (own_r_pick A p1))), .val (.int (0 : Int32)), .unset, .unset] [(.int (0 : Int32))]))
      refine own_by (fun _ zz => XS.istore X4.here hx rfl (hb hby at_48) rfl (l' := #[.val (.int p0), .val (.int p1), .val (.ref (own_r_pick A p0)), .val (.ref (own_r_pick A p1)), .val (.int (own_r_isExact A (own_r_pick A p0))), .val (.int (own_r_isExact A (own_r_pick A p1))), .val (.int (0 : Int32)), .val (.int (0 : Int32)), .unset]) rfl zz) ?_
      show own_Goes p e below _ (T4.setTop (mkF m 50 #[.val (.int p0), .val (.int p1), .val (.ref (own_r_pick A p0)), .val (.ref (own_r_pick A p1)), .val (.int (own_r_isExact A (own_r_pick A p0))), .val (.int (own_r_isExact A (own_r_pick A p1))), .val (.int (0 : Int32)), .val (.int (0 : Int32)), .unset] []))
      refine own_by (fun _ zz => XS.aloadN X4.here hx rfl (hb hby at_50) rfl rfl zz) ?_
      show own_Goes p e below _ (T4.setTop (mkF m 51 #[.val (.int p0), .val (.int p1), .val (.ref (own_r_pick A p0)), .val (.ref (own_r_pick A p1)), .val (.int (own_r_isExact A (own_r_pick A p0))), .val (.int (own_r_isExact A (own_r_pick A p1))), .val (.int (0 : Int32)), .val (.int (0 : Int32)), .unset] [(.ref (own_r_pick A p0))]))
      refine own_by (fun _ zz => XS.aloadN X4.here hx rfl (hb hby at_51) rfl rfl zz) ?_
      show own_Goes p e below _ (T4.setTop (mkF m 52 #[.val (.int p0), .val (.int p1), .val (.ref (own_r_pick A p0)), .val (.ref (own_r_pick A p1)), .val (.int (own_r_isExact A (own_r_pick A p0))), .val (.int (own_r_isExact A (own_r_pick A p1))), .val (.int (0 : Int32)), .val (.int (0 : Int32)), .unset] [(.ref (own_r_pick A p1)), (.ref (own_r_pick A p0))]))
      refine own_callS0 X4 hx hZ (W := 0) (argsL := [(.ref (own_r_pick A p0)), (.ref (own_r_pick A p1))]) (rest := []) hown (own_w17 hw) (own_w18 hw) (own_w5 hw) (own_w19 hw) (by decide) e4 (rm_wider l hw W (own_r_pick A p0) (own_r_pick A p1) (p0 &&& (3 : Int32)) (p1 &&& (3 : Int32)) m1 m2 m3 (own_pk W p0).1 (own_pk W p1).1 (own_pk W p0).2 (own_pk W p1).2) (by decide) (by decide) (by decide) (by decide) (by rw [hml]; rfl) (lenOf own_pd3 rfl) rfl (Nat.le_of_ble_eq_true rfl) (hb hby at_52) fun T14 X14 e14 => ?_
      show own_Goes p e below _ (T14.setTop (mkF m 55 #[.val (.int p0), .val (.int p1), .val (.ref (own_r_pick A p0)), .val (.ref (own_r_pick A p1)), .val (.int (own_r_isExact A (own_r_pick A p0))), .val (.int (own_r_isExact A (own_r_pick A p1))), .val (.int (0 : Int32)), .val (.int (0 : Int32)), .unset] [(.ref (own_r_wider A (own_r_pick A p0) (own_r_pick A p1) (p0 &&& (3 : Int32)) (p1 &&& (3 : Int32))))]))
      refine own_callV0 X14 hx hZ (W := 0) (K := "com/example/rillgraph/rillgraph/engine/Numeric$Type") (argsL := []) (rest := []) hown (own_w9 hw) (own_w10 hw) (own_w12 hw) (own_w11 hw) (own_w13 hw) (own_w5 hw) (by decide) e14 (own_exw W p0 p1) (rm_isExact l hw W (own_r_wider A (own_r_pick A p0) (own_r_pick A p1) (p0 &&& (3 : Int32)) (p1 &&& (3 : Int32)))) (by decide) (by decide) (by decide) (by decide) (by rw [hml]; rfl) (lenOf own_pd2 rfl) rfl (Nat.le_of_ble_eq_true rfl) (hb hby at_55) fun T15 X15 e15 => ?_
      show own_Goes p e below _ (T15.setTop (mkF m 58 #[.val (.int p0), .val (.int p1), .val (.ref (own_r_pick A p0)), .val (.ref (own_r_pick A p1)), .val (.int (own_r_isExact A (own_r_pick A p0))), .val (.int (own_r_isExact A (own_r_pick A p1))), .val (.int (0 : Int32)), .val (.int (0 : Int32)), .unset] [(.int (own_r_isExact A (own_r_wider A (own_r_pick A p0) (own_r_pick A p1) (p0 &&& (3 : Int32)) (p1 &&& (3 : Int32)))))]))
      refine own_by (fun _ zz => XS.istore X15.here hx rfl (hb hby at_58) rfl (l' := #[.val (.int p0), .val (.int p1), .val (.ref (own_r_pick A p0)), .val (.ref (own_r_pick A p1)), .val (.int (own_r_isExact A (own_r_pick A p0))), .val (.int (own_r_isExact A (own_r_pick A p1))), .val (.int (0 : Int32)), .val (.int (0 : Int32)), .val (.int (own_r_isExact A (own_r_wider A (own_r_pick A p0) (own_r_pick A p1) (p0 &&& (3 : Int32)) (p1 &&& (3 : Int32)))))]) rfl zz) ?_
      show own_Goes p e below _ (T15.setTop (mkF m 60 #[.val (.int p0), .val (.int p1), .val (.ref (own_r_pick A p0)), .val (.ref (own_r_pick A p1)), .val (.int (own_r_isExact A (own_r_pick A p0))), .val (.int (own_r_isExact A (own_r_pick A p1))), .val (.int (0 : Int32)), .val (.int (0 : Int32)), .val (.int (own_r_isExact A (own_r_wider A (own_r_pick A p0) (own_r_pick A p1) (p0 &&& (3 : Int32)) (p1 &&& (3 : Int32)))))] []))
      refine own_by (fun _ zz => XS.iload X15.here hx rfl (hb hby at_60) rfl zz) ?_
      show own_Goes p e below _ (T15.setTop (mkF m 62 #[.val (.int p0), .val (.int p1), .val (.ref (own_r_pick A p0)), .val (.ref (own_r_pick A p1)), .val (.int (own_r_isExact A (own_r_pick A p0))), .val (.int (own_r_isExact A (own_r_pick A p1))), .val (.int (0 : Int32)), .val (.int (0 : Int32)), .val (.int (own_r_isExact A (own_r_wider A (own_r_pick A p0) (own_r_pick A p1) (p0 &&& (3 : Int32)) (p1 &&& (3 : Int32)))))] [(.int (own_r_isExact A (own_r_pick A p0)))]))
      refine own_by (fun _ zz => XS.iload X15.here hx rfl (hb hby at_62) rfl zz) ?_
      show own_Goes p e below _ (T15.setTop (mkF m 64 #[.val (.int p0), .val (.int p1), .val (.ref (own_r_pick A p0)), .val (.ref (own_r_pick A p1)), .val (.int (own_r_isExact A (own_r_pick A p0))), .val (.int (own_r_isExact A (own_r_pick A p1))), .val (.int (0 : Int32)), .val (.int (0 : Int32)), .val (.int (own_r_isExact A (own_r_wider A (own_r_pick A p0) (own_r_pick A p1) (p0 &&& (3 : Int32)) (p1 &&& (3 : Int32)))))] [(.int (0 : Int32)), (.int (own_r_isExact A (own_r_pick A p0)))]))
      refine own_by (fun _ zz => XS.icmpNo X15.here hx rfl (hb hby at_64) rfl (XT.ii_ne_f (by rw [own_ie W p0, if_neg q5])) zz) ?_
      show own_Goes p e below _ (T15.setTop (mkF m 67 #[.val (.int p0), .val (.int p1), .val (.ref (own_r_pick A p0)), .val (.ref (own_r_pick A p1)), .val (.int (own_r_isExact A (own_r_pick A p0))), .val (.int (own_r_isExact A (own_r_pick A p1))), .val (.int (0 : Int32)), .val (.int (0 : Int32)), .val (.int (own_r_isExact A (own_r_wider A (own_r_pick A p0) (own_r_pick A p1) (p0 &&& (3 : Int32)) (p1 &&& (3 : Int32)))))] []))
      refine own_by (fun _ zz => XS.iload X15.here hx rfl (hb hby at_67) rfl zz) ?_
      show own_Goes p e below _ (T15.setTop (mkF m 69 #[.val (.int p0), .val (.int p1), .val (.ref (own_r_pick A p0)), .val (.ref (own_r_pick A p1)), .val (.int (own_r_isExact A (own_r_pick A p0))), .val (.int (own_r_isExact A (own_r_pick A p1))), .val (.int (0 : Int32)), .val (.int (0 : Int32)), .val (.int (own_r_isExact A (own_r_wider A (own_r_pick A p0) (own_r_pick A p1) (p0 &&& (3 : Int32)) (p1 &&& (3 : Int32)))))] [(.int (own_r_isExact A (own_r_pick A p1)))]))
      refine own_by (fun _ zz => XS.iload X15.here hx rfl (hb hby at_69) rfl zz) ?_
      show own_Goes p e below _ (T15.setTop (mkF m 71 #[.val (.int p0), .val (.int p1), .val (.ref (own_r_pick A p0)), .val (.ref (own_r_pick A p1)), .val (.int (own_r_isExact A (own_r_pick A p0))), .val (.int (own_r_isExact A (own_r_pick A p1))), .val (.int (0 : Int32)), .val (.int (0 : Int32)), .val (.int (own_r_isExact A (own_r_wider A (own_r_pick A p0) (own_r_pick A p1) (p0 &&& (3 : Int32)) (p1 &&& (3 : Int32)))))] [(.int (0 : Int32)), (.int (own_r_isExact A (own_r_pick A p1)))]))
      refine own_by (fun _ zz => XS.icmpNo X15.here hx rfl (hb hby at_71) rfl (XT.ii_ne_f (by rw [own_ie W p1, if_neg q11])) zz) ?_
      show own_Goes p e below _ (T15.setTop (mkF m 74 #[.val (.int p0), .val (.int p1), .val (.ref (own_r_pick A p0)), .val (.ref (own_r_pick A p1)), .val (.int (own_r_isExact A (own_r_pick A p0))), .val (.int (own_r_isExact A (own_r_pick A p1))), .val (.int (0 : Int32)), .val (.int (0 : Int32)), .val (.int (own_r_isExact A (own_r_wider A (own_r_pick A p0) (own_r_pick A p1) (p0 &&& (3 : Int32)) (p1 &&& (3 : Int32)))))] []))
      refine own_by (fun _ zz => XS.iload X15.here hx rfl (hb hby at_74) rfl zz) ?_
      show own_Goes p e below _ (T15.setTop (mkF m 76 #[.val (.int p0), .val (.int p1), .val (.ref (own_r_pick A p0)), .val (.ref (own_r_pick A p1)), .val (.int (own_r_isExact A (own_r_pick A p0))), .val (.int (own_r_isExact A (own_r_pick A p1))), .val (.int (0 : Int32)), .val (.int (0 : Int32)), .val (.int (own_r_isExact A (own_r_wider A (own_r_pick A p0) (own_r_pick A p1) (p0 &&& (3 : Int32)) (p1 &&& (3 : Int32)))))] [(.int (own_r_isExact A (own_r_wider A (own_r_pick A p0) (own_r_pick A p1) (p0 &&& (3 : Int32)) (p1 &&& (3 : Int32)))))]))
      refine own_by (fun _ zz => XS.iload X15.here hx rfl (hb hby at_76) rfl zz) ?_
      show own_Goes p e below _ (T15.setTop (mkF m 78 #[.val (.int p0), .val (.int p1), .val (.ref (own_r_pick A p0)), .val (.ref (own_r_pick A p1)), .val (.int (own_r_isExact A (own_r_pick A p0))), .val (.int (own_r_isExact A (own_r_pick A p1))), .val (.int (0 : Int32)), .val (.int (0 : Int32)), .val (.int (own_r_isExact A (own_r_wider A (own_r_pick A p0) (own_r_pick A p1) (p0 &&& (3 : Int32)) (p1 &&& (3 : Int32)))))] [(.int (own_r_isExact A (own_r_pick A p0))), (.int (own_r_isExact A (own_r_wider A (own_r_pick A p0) (own_r_pick A p1) (p0 &&& (3 : Int32)) (p1 &&& (3 : Int32)))))]))
      refine own_by (fun _ zz => XS.ifYes X15.here hx rfl (pc0 := 78) (pc' := 90) rfl (hb hby at_78) rfl (XT.i0_eq_t (by rw [own_ie W p0, if_neg q5])) (by decide) (by decide) zz) ?_
      show own_Goes p e below _ (T15.setTop (mkF m 90 #[.val (.int p0), .val (.int p1), .val (.ref (own_r_pick A p0)), .val (.ref (own_r_pick A p1)), .val (.int (own_r_isExact A (own_r_pick A p0))), .val (.int (own_r_isExact A (own_r_pick A p1))), .val (.int (0 : Int32)), .val (.int (0 : Int32)), .val (.int (own_r_isExact A (own_r_wider A (own_r_pick A p0) (own_r_pick A p1) (p0 &&& (3 : Int32)) (p1 &&& (3 : Int32)))))] [(.int (own_r_isExact A (own_r_wider A (own_r_pick A p0) (own_r_pick A p1) (p0 &&& (3 : Int32)) (p1 &&& (3 : Int32)))))]))
      refine own_by (fun _ zz => XS.iconst X15.here hx rfl (hb hby at_90) zz) ?_
      show own_Goes p e below _ (T15.setTop (mkF m 91 #[.val (.int p0), .val (.int p1), .val (.ref (own_r_pick A p0)), .val (.ref (own_r_pick A p1)), .val (.int (own_r_isExact A (own_r_pick A p0))), .val (.int (own_r_isExact A (own_r_pick A p1))), .val (.int (0 : Int32)), .val (.int (0 : Int32)), .val (.int (own_r_isExact A (own_r_wider A (own_r_pick A p0) (own_r_pick A p1) (p0 &&& (3 : Int32)) (p1 &&& (3 : Int32)))))] [(.int (0 : Int32)), (.int (own_r_isExact A (own_r_wider A (own_r_pick A p0) (own_r_pick A p1) (p0 &&& (3 : Int32)) (p1 &&& (3 : Int32)))))]))
      refine own_by (fun _ zz => XS.icmpNo X15.here hx rfl (hb hby at_91) rfl (XT.ii_ne_f (by rw [own_iw W p0 p1, if_neg q5])) zz) ?_
      show own_Goes p e below _ (T15.setTop (mkF m 94 #[.val (.int p0), .val (.int p1), .val (.ref (own_r_pick A p0)), .val (.ref (own_r_pick A p1)), .val (.int (own_r_isExact A (own_r_pick A p0))), .val (.int (own_r_isExact A (own_r_pick A p1))), .val (.int (0 : Int32)), .val (.int (0 : Int32)), .val (.int (own_r_isExact A (own_r_wider A (own_r_pick A p0) (own_r_pick A p1) (p0 &&& (3 : Int32)) (p1 &&& (3 : Int32)))))] []))
      refine own_by (fun _ zz => XS.iconst X15.here hx rfl (hb hby at_94) zz) ?_
      show own_Goes p e below _ (T15.setTop (mkF m 95 #[.val (.int p0), .val (.int p1), .val (.ref (own_r_pick A p0)), .val (.ref (own_r_pick A p1)), .val (.int (own_r_isExact A (own_r_pick A p0))), .val (.int (own_r_isExact A (own_r_pick A p1))), .val (.int (0 : Int32)), .val (.int (0 : Int32)), .val (.int (own_r_isExact A (own_r_wider A (own_r_pick A p0) (own_r_pick A p1) (p0 &&& (3 : Int32)) (p1 &&& (3 : Int32)))))] [(.int (1 : Int32))]))
      refine own_by (fun _ zz => XS.goto X15.here hx rfl (pc0 := 95) (pc' := 99) rfl (hb hby at_95) (by decide) (by decide) zz) ?_
      show own_Goes p e below _ (T15.setTop (mkF m 99 #[.val (.int p0), .val (.int p1), .val (.ref (own_r_pick A p0)), .val (.ref (own_r_pick A p1)), .val (.int (own_r_isExact A (own_r_pick A p0))), .val (.int (own_r_isExact A (own_r_pick A p1))), .val (.int (0 : Int32)), .val (.int (0 : Int32)), .val (.int (own_r_isExact A (own_r_wider A (own_r_pick A p0) (own_r_pick A p1) (p0 &&& (3 : Int32)) (p1 &&& (3 : Int32)))))] [(.int (1 : Int32))]))
      refine own_retN X15 hx hlk (ty := .boolean) hret (by simp) (hb hby at_99) (by decide) (by decide) ?_
      exact ⟨rfl, rfl⟩
set_option maxRecDepth 65536 in
set_option maxHeartbeats 40000000 in
theorem comes_1 {Post : Tables → Env → Array Value → State → Outcome → State → Prop} (hpost : ∀ tb e args s v u, (limb_1_1.after args s (.returned v) u = true ∧ limb_1_2.after args s (.returned v) u = true ∧ True) → FrameEnd s (.returned v) u (Jvm.fieldLocs frame_1_writes args s ++ Jvm.arrayLocs frame_1_arrays args s ++ Jvm.staticLocs frame_1_statics s) 0 0 → Post tb e args s (.returned v) u) :
    ArmFor flags0 classFile x code maxLocals ret World_1 tables_1 room_1 Calls_1 rest_1 Pre_1 Post := by
  intro l hfl _ _ p e ha hc hk s m args below hf hA hF happ hP
  obtain ⟨hcalls, hrest, hpre⟩ := hP
  obtain ⟨-, -, -, hnamed, -, -, -, hat⟩ := (Spec.applies_iff hf).mp happ
  obtain ⟨hg, hn⟩ := and_e (Cond.before_iff.mp (show (Jvm.Cond.and given_1 narrow_1).before args s = true from hpre))
  obtain ⟨g0, hg0⟩ := and_e hg
  obtain ⟨i0, hg1⟩ := and_e hg0
  obtain ⟨w0, w1, rfl⟩ : ∃ w0 w1 : Value, args = #[w0, w1] := by
    have hs : args.size = 2 := by simpa [Cond.value, given_1] using g0
    obtain ⟨L⟩ := args
    match L, hs with
    | [w0, w1], _ => exact ⟨w0, w1, rfl⟩
  have hw := fun d (hd : d ∈ tables_1) => atoms_spec (ws := Jvm.Cond.code x code maxLocals ret :: tables_1) hat d (List.mem_cons_of_mem _ hd)
  obtain ⟨j0, y0⟩ := is_v i0
  obtain rfl : w0 = (.int j0) := Option.some.inj y0
  obtain ⟨j1, y1⟩ := is_v hg1
  obtain rfl : w1 = (.int j1) := Option.some.inj y1
  obtain ⟨A, W⟩ := own_world hw hn
  obtain ⟨cM, kM, mir, m1, m2, m3, -⟩ := hcalls.1
  obtain ⟨n, o, h1, h2, h3, _, L, rfl, ⟨rfl, rfl⟩, hq⟩ := rm_law l hw tables_1 W m1 m2 m3 j0 j1 p e ha hc hk s m _ below hf ((Spec.applies_iff_loose hf).mp happ).1 ⟨rfl, State.Warmed39.refl s, rfl⟩ trivial
  refine ⟨n, _, h1, h2, h3, hpost _ _ _ _ _ _ ⟨Cond.after_iff.mpr rfl, Cond.after_iff.mpr (eq_i res_at (Term.int_eval (1)) rfl), trivial⟩ ⟨hq.1, hq.2.1, (hq.2.2.sift fun y hy => nomatch hy).mono (by decide) (by decide)⟩⟩
theorem main_1_1 : Claimed_1_1 := comes_1 fun _ _ _ _ _ _ h hF => ⟨h.1, hF⟩
theorem main_1_2 : Claimed_1_2 := comes_1 fun _ _ _ _ _ _ h hF => ⟨h.2.1, hF⟩
end Jvm.Pilot.@@N@@
namespace Jvm.Pilot.@@N@@
open Jvm Jvm.ClassFile Sem Op Lib Jvm.Free Jvm.Stand Jvm.Pilot.@@N@@.Jvm.D
/-! MADE BY PROGRAM (witnessworld.py) out of the Statement's table words and the real class files: 12 classes; the members and pool entries that the words name. The judged class is class 1, her method 2. -/
namespace start1
open Jvm.ClassFile
def u (s : String) : CpInfo := .utf8 (stringToUtf16 s)
/-- a pool by its gaps: so many unusable entries, then the entry; so many at the end -/
def gap : Nat → List CpInfo → List CpInfo
  | 0, r => r
  | n + 1, r => .unusable :: gap n r
def poolList (es : List (Nat × CpInfo)) (last : Nat) : List CpInfo := es.foldr (fun e r => gap e.1 (e.2 :: r)) (gap last [])
def pool (es : List (Nat × CpInfo)) (last : Nat) : Array CpInfo := ⟨poolList es last⟩
def fileOf (pool : Array CpInfo) (this : Nat) (attrs : Array Attribute := #[]) (ms : Array MethodInfo := #[]) (fl : Nat := 33) (sup : Nat := 0) (ifs : Array Nat := #[]) (fds : Array FieldInfo := #[]) : ClassFile where
  minorVersion := 0
  majorVersion := 65
  constantPool := pool
  accessFlags := fl
  thisClass := this
  superClass := sup
  interfaces := ifs
  fields := fds
  methods := ms
  attributes := attrs
def plain (name : String) (sup : Option ClassId) : Class where
  name := name
  kind := .ordinary
  loader := none
  accessFlags := 33
  super := sup
  interfaces := #[]
  cf := none
  fields := #[]
  methods := #[]
  instanceTypes := #[]
  staticTypes := #[]
  resolved := #[]
  callSites := []
  init := .initialized
  statics := none
  mirror := none

def pool0 : Array CpInfo := pool [(5, u "<init>"), (0, u "()V"), (1, .class_ 10), (1, u "java/lang/Object"), (0, u "getClass"), (0, u "()Ljava/lang/Class;")] 111

def k0m0 : Method := { name := "<init>", desc := "()V", sig := { parameters := [], returnType := none }, accessFlags := 1, code := none }
def k0m1 : Method := { name := "getClass", desc := "()Ljava/lang/Class;", sig := { parameters := [], returnType := some (.object "java/lang/Class") }, accessFlags := 273, code := none }
/-- java/lang/Object -/
def k0 : Class := { plain "java/lang/Object" none with
  accessFlags := 33
  interfaces := #[]
  cf := some (fileOf pool0 8 #[] #[{ accessFlags := 1, nameIndex := 5, descriptorIndex := 6, attributes := #[] }, { accessFlags := 273, nameIndex := 11, descriptorIndex := 12, attributes := #[] }] 33 0 #[] #[])
  fields := #[]
  methods := #[k0m0, k0m1]
  instanceTypes := #[]
  staticTypes := #[]
  resolved := Array.replicate 124 none
  statics := none }

def pool1 : Array CpInfo := pool [(2, .class_ 4), (1, u "java/lang/Object"), (0, u "<init>"), (0, u "()V"), (0, .fieldref 8 9), (0, .class_ 10), (0, .nameAndType 11 12), (0, u "com/example/rillgraph/rillgraph/engine/Numeric$Type"), (0, u "INTEGER"), (0, u "Lcom/example/rillgraph/rillgraph/engine/Numeric$Type;"), (0, .fieldref 8 14), (0, .nameAndType 15 12), (0, u "DECIMAL"), (0, .fieldref 8 17), (0, .nameAndType 18 12), (0, u "FLOAT"), (0, .fieldref 8 20), (0, .nameAndType 21 12), (0, u "DOUBLE"), (0, .methodref 23 24), (0, .class_ 25), (0, .nameAndType 26 27), (0, u "com/example/rillgraph/rillgraph/engine/TypeIsExactPinLaw"), (0, u "pick"), (0, u "(I)Lcom/example/rillgraph/rillgraph/engine/Numeric$Type;"), (0, .methodref 8 29), (0, .nameAndType 30 31), (0, u "isExact"), (0, u "()Z"), (0, .methodref 8 33), (0, .nameAndType 34 35), (0, u "wider"), (0, u "(Lcom/example/rillgraph/rillgraph/engine/Numeric$Type;Lcom/example/rillgraph/rillgraph/engine/Numeric$Type;)Lcom/example/rillgraph/rillgraph/engine/Numeric$Type;"), (3, u "law"), (0, u "(II)Z")] 6

def k1m0 : Method := { name := "<init>", desc := "()V", sig := { parameters := [], returnType := none }, accessFlags := 2, code := none }
def k1c1 : Code := { maxStack := 2, maxLocals := 2, code := method_2_code, exceptionTable := #[], attributes := #[] }
def k1m1 : Method := { name := "pick", desc := "(I)Lcom/example/rillgraph/rillgraph/engine/Numeric$Type;", sig := { parameters := [.int], returnType := some (.object "com/example/rillgraph/rillgraph/engine/Numeric$Type") }, accessFlags := 10, code := some k1c1 }
def k1c2 : Code := { maxStack := 2, maxLocals := 9, code := code, exceptionTable := #[], attributes := #[] }
def k1m2 : Method := { name := "law", desc := "(II)Z", sig := { parameters := [.int, .int], returnType := some .boolean }, accessFlags := 9, code := some k1c2 }
/-- com/example/rillgraph/rillgraph/engine/TypeIsExactPinLaw -/
def k1 : Class := { plain "com/example/rillgraph/rillgraph/engine/TypeIsExactPinLaw" (some 0) with
  accessFlags := 49
  interfaces := #[]
  cf := some (fileOf pool1 23 #[] #[{ accessFlags := 2, nameIndex := 5, descriptorIndex := 6, attributes := #[] }, { accessFlags := 10, nameIndex := 26, descriptorIndex := 27, attributes := #[] }, { accessFlags := 9, nameIndex := 39, descriptorIndex := 40, attributes := #[] }] 49 2 #[] #[])
  fields := #[]
  methods := #[k1m0, k1m1, k1m2]
  instanceTypes := #[]
  staticTypes := #[]
  resolved := Array.replicate 47 none
  statics := none }

def pool2 : Array CpInfo := pool [(1, .class_ 2), (0, u "java/lang/constant/Constable"), (0, .class_ 4), (0, u "java/lang/Object")] 6

/-- java/lang/constant/Constable -/
def k2 : Class := { plain "java/lang/constant/Constable" (some 0) with
  accessFlags := 1537
  interfaces := #[]
  cf := some (fileOf pool2 1 #[] #[] 1537 3 #[] #[])
  fields := #[]
  methods := #[]
  instanceTypes := #[]
  staticTypes := #[]
  resolved := Array.replicate 11 none
  statics := none }

def pool3 : Array CpInfo := pool [(1, .class_ 2), (0, u "java/lang/Comparable"), (0, .class_ 4), (0, u "java/lang/Object")] 7

/-- java/lang/Comparable -/
def k3 : Class := { plain "java/lang/Comparable" (some 0) with
  accessFlags := 1537
  interfaces := #[]
  cf := some (fileOf pool3 1 #[] #[] 1537 3 #[] #[])
  fields := #[]
  methods := #[]
  instanceTypes := #[]
  staticTypes := #[]
  resolved := Array.replicate 12 none
  statics := none }

def pool4 : Array CpInfo := pool [(1, .class_ 2), (0, u "java/io/Serializable"), (0, .class_ 4), (0, u "java/lang/Object")] 2

/-- java/io/Serializable -/
def k4 : Class := { plain "java/io/Serializable" (some 0) with
  accessFlags := 1537
  interfaces := #[]
  cf := some (fileOf pool4 1 #[] #[] 1537 3 #[] #[])
  fields := #[]
  methods := #[]
  instanceTypes := #[]
  staticTypes := #[]
  resolved := Array.replicate 7 none
  statics := none }

def pool5 : Array CpInfo := pool [(2, .class_ 4), (1, u "java/lang/Enum"), (0, u "name"), (0, u "Ljava/lang/String;"), (0, .fieldref 2 8), (0, .nameAndType 9 10), (0, u "ordinal"), (0, u "I"), (1, .class_ 14), (1, u "java/lang/Object"), (4, u "hash"), (9, .methodref 12 30), (0, .nameAndType 31 32), (0, u "getClass"), (0, u "()Ljava/lang/Class;"), (70, u "compareTo"), (0, u "(Ljava/lang/Enum;)I"), (1, .class_ 108), (1, u "java/lang/Enum$EnumDesc"), (2, .class_ 112), (0, u "java/lang/constant/Constable"), (0, .class_ 114), (0, u "java/lang/Comparable"), (0, .class_ 116), (0, u "java/io/Serializable")] 87

def k5c0 : Code := { maxStack := 2, maxLocals := 4, code := jdk_37_method_8_code, exceptionTable := #[], attributes := #[] }
def k5m0 : Method := { name := "compareTo", desc := "(Ljava/lang/Enum;)I", sig := { parameters := [(.object "java/lang/Enum")], returnType := some .int }, accessFlags := 17, code := some k5c0 }
/-- java/lang/Enum -/
def k5 : Class := { plain "java/lang/Enum" (some 0) with
  accessFlags := 1057
  interfaces := #[2, 3, 4]
  cf := some (fileOf pool5 2 #[.nestMembers #[106]] #[{ accessFlags := 17, nameIndex := 103, descriptorIndex := 104, attributes := #[] }] 1057 12 #[111, 113, 115] #[{ accessFlags := 18, nameIndex := 5, descriptorIndex := 6, attributes := #[] }, { accessFlags := 18, nameIndex := 9, descriptorIndex := 10, attributes := #[] }, { accessFlags := 2, nameIndex := 19, descriptorIndex := 10, attributes := #[] }])
  fields := #[{ name := "name", type := (.object "java/lang/String"), accessFlags := 18, slot := 0, constantValue := 0 }, { name := "ordinal", type := .int, accessFlags := 18, slot := 1, constantValue := 0 }, { name := "hash", type := .int, accessFlags := 2, slot := 2, constantValue := 0 }]
  methods := #[k5m0]
  instanceTypes := #[(.object "java/lang/String"), .int, .int]
  staticTypes := #[]
  resolved := Array.replicate 204 none
  statics := none }

def pool6 : Array CpInfo := pool [(1, .class_ 2), (0, u "com/example/rillgraph/rillgraph/engine/Numeric$Type"), (0, .fieldref 1 4), (0, .nameAndType 5 6), (0, u "INTEGER"), (0, u "Lcom/example/rillgraph/rillgraph/engine/Numeric$Type;"), (0, .fieldref 1 8), (0, .nameAndType 9 6), (0, u "DECIMAL"), (2, u "FLOAT"), (2, u "DOUBLE"), (2, u "$VALUES"), (0, u "[Lcom/example/rillgraph/rillgraph/engine/Numeric$Type;"), (6, .class_ 28), (1, u "java/lang/Enum"), (8, u "datatype"), (0, u "Lcom/example/rillgraph/rillgraph/model/Iri;"), (0, .methodref 1 40), (0, .nameAndType 41 42), (0, u "compareTo"), (0, u "(Ljava/lang/Enum;)I"), (32, u "isExact"), (0, u "()Z"), (1, u "wider"), (0, u "(Lcom/example/rillgraph/rillgraph/engine/Numeric$Type;Lcom/example/rillgraph/rillgraph/engine/Numeric$Type;)Lcom/example/rillgraph/rillgraph/engine/Numeric$Type;"), (6, .class_ 87), (0, u "com/example/rillgraph/rillgraph/engine/Numeric")] 2

def k6c0 : Code := { maxStack := 2, maxLocals := 1, code := prog_71_method_4_code, exceptionTable := #[], attributes := #[] }
def k6m0 : Method := { name := "isExact", desc := "()Z", sig := { parameters := [], returnType := some .boolean }, accessFlags := 0, code := some k6c0 }
def k6c1 : Code := { maxStack := 2, maxLocals := 2, code := prog_71_method_5_code, exceptionTable := #[], attributes := #[] }
def k6m1 : Method := { name := "wider", desc := "(Lcom/example/rillgraph/rillgraph/engine/Numeric$Type;Lcom/example/rillgraph/rillgraph/engine/Numeric$Type;)Lcom/example/rillgraph/rillgraph/engine/Numeric$Type;", sig := { parameters := [(.object "com/example/rillgraph/rillgraph/engine/Numeric$Type"), (.object "com/example/rillgraph/rillgraph/engine/Numeric$Type")], returnType := some (.object "com/example/rillgraph/rillgraph/engine/Numeric$Type") }, accessFlags := 8, code := some k6c1 }
/-- com/example/rillgraph/rillgraph/engine/Numeric$Type -/
def k6 : Class := { plain "com/example/rillgraph/rillgraph/engine/Numeric$Type" (some 5) with
  accessFlags := 16432
  interfaces := #[]
  cf := some (fileOf pool6 1 #[.nestHost 86] #[{ accessFlags := 0, nameIndex := 75, descriptorIndex := 76, attributes := #[] }, { accessFlags := 8, nameIndex := 78, descriptorIndex := 79, attributes := #[] }] 16432 26 #[] #[{ accessFlags := 16409, nameIndex := 5, descriptorIndex := 6, attributes := #[] }, { accessFlags := 16409, nameIndex := 9, descriptorIndex := 6, attributes := #[] }, { accessFlags := 16409, nameIndex := 12, descriptorIndex := 6, attributes := #[] }, { accessFlags := 16409, nameIndex := 15, descriptorIndex := 6, attributes := #[] }, { accessFlags := 18, nameIndex := 37, descriptorIndex := 38, attributes := #[] }, { accessFlags := 4122, nameIndex := 18, descriptorIndex := 19, attributes := #[] }])
  fields := #[{ name := "INTEGER", type := (.object "com/example/rillgraph/rillgraph/engine/Numeric$Type"), accessFlags := 16409, slot := 0, constantValue := 0 }, { name := "DECIMAL", type := (.object "com/example/rillgraph/rillgraph/engine/Numeric$Type"), accessFlags := 16409, slot := 1, constantValue := 0 }, { name := "FLOAT", type := (.object "com/example/rillgraph/rillgraph/engine/Numeric$Type"), accessFlags := 16409, slot := 2, constantValue := 0 }, { name := "DOUBLE", type := (.object "com/example/rillgraph/rillgraph/engine/Numeric$Type"), accessFlags := 16409, slot := 3, constantValue := 0 }, { name := "datatype", type := (.object "com/example/rillgraph/rillgraph/model/Iri"), accessFlags := 18, slot := 3, constantValue := 0 }, { name := "$VALUES", type := (.array (.object "com/example/rillgraph/rillgraph/engine/Numeric$Type")), accessFlags := 4122, slot := 4, constantValue := 0 }]
  methods := #[k6m0, k6m1]
  instanceTypes := #[(.object "java/lang/String"), .int, .int, (.object "com/example/rillgraph/rillgraph/model/Iri")]
  staticTypes := #[(.object "com/example/rillgraph/rillgraph/engine/Numeric$Type"), (.object "com/example/rillgraph/rillgraph/engine/Numeric$Type"), (.object "com/example/rillgraph/rillgraph/engine/Numeric$Type"), (.object "com/example/rillgraph/rillgraph/engine/Numeric$Type"), (.array (.object "com/example/rillgraph/rillgraph/engine/Numeric$Type"))]
  resolved := Array.replicate 90 none
  statics := some 0
  mirror := some 5 }

def pool7 : Array CpInfo := pool [(1, u "java/lang/Cloneable"), (0, .class_ 1), (0, u "java/lang/Object"), (0, .class_ 3)] 3

/-- java/lang/Cloneable -/
def k7 : Class := { plain "java/lang/Cloneable" (some 0) with
  accessFlags := 1537
  interfaces := #[]
  cf := some (fileOf pool7 2 #[] #[] 1537 4 #[] #[])
  fields := #[]
  methods := #[]
  instanceTypes := #[]
  staticTypes := #[]
  resolved := Array.replicate 8 none
  statics := none }

/-- the primitive byte -/
def k8 : Class := { plain "byte" none with kind := .primitive 'B', accessFlags := 0x411 }
/-- [B -/
def k9 : Class := { plain "[B" (some 0) with kind := .array 8 .byte, interfaces := #[7, 4], accessFlags := 1041 }

/-- the primitive int -/
def k10 : Class := { plain "int" none with kind := .primitive 'I', accessFlags := 0x411 }
/-- [I -/
def k11 : Class := { plain "[I" (some 0) with kind := .array 10 .int, interfaces := #[7, 4], accessFlags := 1041 }

def heap : Heap := #[{ cls := 6, slots := #[.ref 1, .ref 3, .ref 4, .ref 2, .null], vm := .statics 6 },
  { cls := 6, slots := #[.null, .int 0, .int 0, .null], vm := .none },
  { cls := 6, slots := #[.null, .int 3, .int 0, .null], vm := .none },
  { cls := 6, slots := #[.null, .int 1, .int 0, .null], vm := .none },
  { cls := 6, slots := #[.null, .int 2, .int 0, .null], vm := .none },
  { cls := 0, slots := #[], vm := .mirror 6 }]
def classes : Array Class := #[k0, k1, k2, k3, k4, k5, k6, k7, k8, k9, k10, k11]
def interned : List (Array UInt16 × Addr) := []
def slotsUsed : Nat := 21
def theMethod : MethodId := ⟨1, 2⟩
def args0 : Array Value := #[.int 5, .int 6]
def aboutOver (below : List Frame) : State where
  vm := { classes := classes, interned := interned.toArray }
  heap := heap
  slotsUsed := slotsUsed
  threads := #[{ frames := .invoking theMethod args0 :: below }]
def below0 : List Frame := [.native { method := ⟨0, 0⟩, args := #[] }]
def about1 : State := aboutOver below0
def p0 : Program := .bare "" "" ""
def e0 : Env := launch0.env 0 0 0
theorem w_frames : about1.frames = Frame.invoking theMethod args0 :: below0 := rfl
set_option maxRecDepth 65536 in
theorem w_args : argsFit about1.vm theMethod args0 = true := by decide +kernel
set_option maxRecDepth 65536 in
theorem w_heap : heapFits about1 = true := by decide +kernel
set_option maxRecDepth 65536 in
theorem w_runnable : about1.curStatus? = some .runnable := by decide +kernel
set_option maxRecDepth 65536 in
theorem w_alone : about1.alone = true := by decide +kernel
set_option maxRecDepth 65536 in
theorem w_named : about1.methodNamed? x = some theMethod := by decide +kernel
set_option maxRecDepth 65536 in
theorem w_hears : about1.hears theMethod below0 = true := by decide +kernel
set_option maxRecDepth 65536 in
theorem w_ripe : about1.ripe theMethod args0 below0 = true := by decide +kernel
theorem w_running : about1.status = .running := rfl
set_option maxRecDepth 65536 in
theorem w_room : about1.hasRoom e0.platform room_1 = true :=
  launch0.hasRoom_least _ room_1 (by decide +kernel) (by decide +kernel) (by decide +kernel) (by decide +kernel) (by decide +kernel) (by decide +kernel)
theorem allAtoms_all (ts : List Jvm.Cond) (a : Array Jvm.Value) (st : Jvm.State) : (allAtoms ts).before a st = ts.all (fun c => c.before a st) := by
  induction ts with
  | nil => rfl
  | cons c t ih =>
    show (Jvm.Cond.and c (allAtoms t)).before a st = _
    rw [Jvm.Cond.before_and, ih, List.all_cons]
def words1 : List Jvm.Cond := Jvm.Cond.code x code maxLocals ret :: tables_1
/-- a 'code' word, met by the world's own term for the bytes: nothing is compared byte by byte -/
theorem code_word {y : MethodName} {bytes : ByteArray} {mx : Nat} {rt : Option FieldType} {a : Array Value} {s : State} {m : MethodId} {meth : Method} {c : Code} (h1 : s.methodNamed? y = some m) (h2 : s.vm.method? m = some meth) (h3 : meth.code = some c) (h4 : c.code = bytes)
    (h5 : (c.maxLocals == mx && c.exceptionTable.isEmpty && decide (c.maxStack ≤ mostOperands) && decide (meth.sig.returnType = rt) && !meth.locks && decide (parseMethodDescriptor y.desc = some meth.sig)) = true) : (Jvm.Cond.code y bytes mx rt).before a s = true := by
  simp only [Bool.and_eq_true, beq_iff_eq, Bool.not_eq_true', decide_eq_true_eq] at h5
  obtain ⟨⟨⟨⟨⟨g1, g2⟩, g3⟩, g4⟩, g5⟩, g6⟩ := h5
  simp [Cond.before, Cond.holds, Cond.value, h1, h2, h3, h4, g1, g2, g3, g4, g5, g6]
def isCode : Jvm.Cond → Bool
  | .code _ _ _ _ => true
  | _ => false
theorem all_split {L : List Jvm.Cond} {P : Jvm.Cond → Bool} (h1 : L.all (fun c => isCode c || P c) = true) (h2 : ∀ c ∈ L.filter isCode, P c = true) : L.all P = true := by
  refine List.all_eq_true.mpr fun c hc => ?_
  have h := List.all_eq_true.mp h1 c hc
  rcases Bool.eq_false_or_eq_true (isCode c) with hi | hi
  · exact h2 c (List.mem_filter.mpr ⟨hc, hi⟩)
  · simpa [hi] using h
set_option maxRecDepth 65536 in
theorem w_c0 : (Jvm.Cond.code x code maxLocals ret).before args0 about1 = true := code_word (m := ⟨1, 2⟩) (meth := k1m2) (c := k1c2) (by decide +kernel) rfl rfl rfl (by decide +kernel)
set_option maxRecDepth 65536 in
theorem w_c1 : (Jvm.Cond.code ({ cls := "com/example/rillgraph/rillgraph/engine/TypeIsExactPinLaw", name := "pick", desc := "(I)Lcom/example/rillgraph/rillgraph/engine/Numeric$Type;" } : Jvm.MethodName) method_2_code (2 : Nat) (Option.some (Jvm.ClassFile.FieldType.object "com/example/rillgraph/rillgraph/engine/Numeric$Type"))).before args0 about1 = true := code_word (m := ⟨1, 1⟩) (meth := k1m1) (c := k1c1) (by decide +kernel) rfl rfl rfl (by decide +kernel)
set_option maxRecDepth 65536 in
theorem w_c2 : (Jvm.Cond.code ({ cls := "com/example/rillgraph/rillgraph/engine/Numeric$Type", name := "isExact", desc := "()Z" } : Jvm.MethodName) prog_71_method_4_code (1 : Nat) (Option.some Jvm.ClassFile.FieldType.boolean)).before args0 about1 = true := code_word (m := ⟨6, 0⟩) (meth := k6m0) (c := k6c0) (by decide +kernel) rfl rfl rfl (by decide +kernel)
set_option maxRecDepth 65536 in
theorem w_c3 : (Jvm.Cond.code ({ cls := "com/example/rillgraph/rillgraph/engine/Numeric$Type", name := "wider", desc := "(Lcom/example/rillgraph/rillgraph/engine/Numeric$Type;Lcom/example/rillgraph/rillgraph/engine/Numeric$Type;)Lcom/example/rillgraph/rillgraph/engine/Numeric$Type;" } : Jvm.MethodName) prog_71_method_5_code (2 : Nat) (Option.some (Jvm.ClassFile.FieldType.object "com/example/rillgraph/rillgraph/engine/Numeric$Type"))).before args0 about1 = true := code_word (m := ⟨6, 1⟩) (meth := k6m1) (c := k6c1) (by decide +kernel) rfl rfl rfl (by decide +kernel)
set_option maxRecDepth 65536 in
theorem w_c4 : (Jvm.Cond.code ({ cls := "java/lang/Enum", name := "compareTo", desc := "(Ljava/lang/Enum;)I" } : Jvm.MethodName) jdk_37_method_8_code (4 : Nat) (Option.some Jvm.ClassFile.FieldType.int)).before args0 about1 = true := code_word (m := ⟨5, 0⟩) (meth := k5m0) (c := k5c0) (by decide +kernel) rfl rfl rfl (by decide +kernel)
def codes1 : List Jvm.Cond := [Jvm.Cond.code x code maxLocals ret, Jvm.Cond.code ({ cls := "com/example/rillgraph/rillgraph/engine/TypeIsExactPinLaw", name := "pick", desc := "(I)Lcom/example/rillgraph/rillgraph/engine/Numeric$Type;" } : Jvm.MethodName) method_2_code (2 : Nat) (Option.some (Jvm.ClassFile.FieldType.object "com/example/rillgraph/rillgraph/engine/Numeric$Type")), Jvm.Cond.code ({ cls := "com/example/rillgraph/rillgraph/engine/Numeric$Type", name := "isExact", desc := "()Z" } : Jvm.MethodName) prog_71_method_4_code (1 : Nat) (Option.some Jvm.ClassFile.FieldType.boolean), Jvm.Cond.code ({ cls := "com/example/rillgraph/rillgraph/engine/Numeric$Type", name := "wider", desc := "(Lcom/example/rillgraph/rillgraph/engine/Numeric$Type;Lcom/example/rillgraph/rillgraph/engine/Numeric$Type;)Lcom/example/rillgraph/rillgraph/engine/Numeric$Type;" } : Jvm.MethodName) prog_71_method_5_code (2 : Nat) (Option.some (Jvm.ClassFile.FieldType.object "com/example/rillgraph/rillgraph/engine/Numeric$Type")), Jvm.Cond.code ({ cls := "java/lang/Enum", name := "compareTo", desc := "(Ljava/lang/Enum;)I" } : Jvm.MethodName) jdk_37_method_8_code (4 : Nat) (Option.some Jvm.ClassFile.FieldType.int)]
set_option maxRecDepth 65536 in
theorem codes_eq : words1.filter isCode = codes1 := rfl
theorem w_codes : ∀ c ∈ words1.filter isCode, c.before args0 about1 = true := by
  rw [codes_eq]
  intro c hc
  simp only [codes1, List.mem_cons, List.not_mem_nil, or_false] at hc
  rcases hc with rfl | rfl | rfl | rfl | rfl
  · exact w_c0
  · exact w_c1
  · exact w_c2
  · exact w_c3
  · exact w_c4
set_option maxRecDepth 65536 in
theorem w_t1 : (words1.take 24).all (fun c => isCode c || c.before args0 about1) = true := by decide +kernel
set_option maxRecDepth 65536 in
theorem w_t2 : (words1.drop 24).all (fun c => isCode c || c.before args0 about1) = true := by decide +kernel
theorem w_tables : (allAtoms (Jvm.Cond.code x code maxLocals ret :: tables_1)).before args0 about1 = true := by
  rw [allAtoms_all]
  show words1.all (fun c => c.before args0 about1) = true
  refine all_split ?_ w_codes
  rw [← List.take_append_drop 24 words1, List.all_append, w_t1, w_t2]
  rfl
set_option maxRecDepth 65536 in
theorem w_case : (Jvm.Cond.and given_1 narrow_1).before args0 about1 = true := by decide +kernel
theorem w_applies : (headSpec (Jvm.Cond.code x code maxLocals ret :: tables_1) room_1).applies x e0.platform about1 = true :=
  (Spec.applies_iff w_frames).mpr ⟨w_running, w_runnable, w_alone, w_named, w_hears, w_ripe, w_room, w_tables⟩
theorem atStart : AtStart classFile x code maxLocals ret World_1 tables_1 room_1 Calls_1 rest_1 Pre_1 launch0 p0 e0 about1 theMethod args0 below0 :=
  ⟨lists_1, trivial, launch0.admits_env _ _ _, launch0.least_env, fairChoices_fair.cas, fairChoices_fair.clock, w_frames, w_args, w_heap, w_applies, ⟨⟨6, k6, 5, by decide +kernel, rfl, rfl, _, rfl, rfl⟩, trivial⟩, trivial, w_case⟩
end start1
theorem witness_1 : WitnessClaimed_1 := ⟨start1.p0, start1.e0, start1.about1, start1.theMethod, start1.args0, start1.below0, start1.atStart⟩
end Jvm.Pilot.@@N@@
