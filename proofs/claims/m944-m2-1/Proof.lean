import JvmDerived
import JvmDerived.Pilot.@@N@@Statement
import JvmDerived.Pilot.@@N@@Code
set_option linter.unusedVariables false
set_option linter.unusedSimpArgs false
@@BLOCK:NumsL.lean.txt@@
namespace Jvm.RoadKit
open Sem ClassFile Op Lib Jvm.Stand Jvm.Free Jvm.LawKit
section New
variable {p : Program} {l : Launch} {e : Env} {R : Room} {s : State} {m : MethodId} {args : Array Value} {below : List Frame} {meth : Method} {c : Code} {T : State} {locs : List Loc} {cells slots : Nat}
theorem retI (X : Stand p l e R s m args below meth c T locs cells slots) (hx : p.tables.exec = Jvm.exec) {pc : Nat} {Ls : Array Slot} {z : Int32} {rest : List Value} (hret : meth.sig.returnType = some .int) (hd : decode c.code pc = .ok (.ireturn, 1)) {fs : List Frame}
    (hl : ∀ (f : JFrame) (acts : List Action), f.method = m → f.locked = none → f.entered = [] → (doReturn e (T.setTop f) acts (some (.int z))).1 = T.setFrames fs) : Steps p.tables e below (T.setTop (mkF m pc Ls (.int z :: rest))) (T.setFrames fs) := by
  have hm' : T.vm.method? m = some meth := X.method'
  have hn : narrow .int (.int z) = .int z := rfl
  show Steps p.tables e below (T.setTop { method := m, pc := pc, locals := Ls, stack := _ :: rest, locked := none }) _
  jvm_step X.here [X.here.top, hx, hd, hm', hret, hn]
  first | (intro acts; rw [hl _ acts rfl rfl rfl]) | rw [hl _ _ rfl rfl rfl]
  exact Steps.refl _
end New
end Jvm.RoadKit
namespace Jvm.Pilot.@@N@@
open Jvm Jvm.ClassFile Sem Op Lib Jvm.Free Jvm.Stand Jvm.LawKit Jvm.RoadKit Bundle Jvm.Pilot.@@N@@.Jvm.D
section OwnKit
variable {p : Program} {l : Launch} {e : Env} {R : Room} {s : State} {m : MethodId} {args : Array Value} {below : List Frame} {meth : Method} {c : Code} {T : State} {locs : List Loc} {cells slots : Nat} {Z : State} {a0 : Array Value} {h : Heap} {Q : Option Value → Heap → List Loc → Prop} {C N : Nat} {t t' : State} {P : Outcome → State → Prop}
/-- from the state t the run comes to a return that meets Q -/
def own_Goes (p : Program) (e : Env) (below : List Frame) (P : Outcome → State → Prop) (t : State) : Prop :=
  ∃ s₂ o, Steps p.tables e below t s₂ ∧ s₂.status = .running ∧ Ended s₂ below o ∧ P o s₂
def own_P (s : State) (Q : Option Value → Heap → List Loc → Prop) (C N : Nat) : Outcome → State → Prop := fun o s₂ => ∃ v L, o = .returned v ∧ Q v s₂.heap L ∧ FrameEnd s o s₂ L C N
theorem own_by (st : ∀ target, Steps p.tables e below t' target → Steps p.tables e below t target) (k : own_Goes p e below P t') : own_Goes p e below P t := by
  obtain ⟨s₂, o, h1, h2⟩ := k
  exact ⟨s₂, o, st _ h1, h2⟩
theorem own_tr (st : Steps p.tables e below t t') (k : own_Goes p e below P t') : own_Goes p e below P t := by
  obtain ⟨s₂, o, h1, h2⟩ := k
  exact ⟨s₂, o, st.trans h1, h2⟩
theorem own_retI (X : Stand p l e R s m args below meth c T locs cells slots) (hx : p.tables.exec = Jvm.exec) (hlk : meth.locks = false) {pc : Nat} {Ls : Array Slot} {z : Int32} {rest : List Value} (hret : meth.sig.returnType = some .int) (hd : decode c.code pc = .ok (.ireturn, 1)) (hC : cells ≤ C) (hN : slots ≤ N) (hq : Q (some (.int z)) T.heap locs) : own_Goes p e below (own_P s Q C N) (T.setTop (mkF m pc Ls (.int z :: rest))) := by
  obtain ⟨fs, hr, hrun, hended, hW, hsame⟩ := X.leave (v := some (.int z)) (fun h => by rw [hret] at h; cases h) hlk
  exact ⟨_, _, retI X hx hret hd hr, hrun, hended, _, _, rfl, hq, ⟨_, rfl⟩, hW, hsame.mono hC hN⟩
theorem own_retN (X : Stand p l e R s m args below meth c T locs cells slots) (hx : p.tables.exec = Jvm.exec) (hlk : meth.locks = false) {pc : Nat} {Ls : Array Slot} {z : Int32} {ty : FieldType} {rest : List Value} (hret : meth.sig.returnType = some ty) (ht : ty = .boolean ∨ ty = .byte ∨ ty = .char ∨ ty = .short) (hd : decode c.code pc = .ok (.ireturn, 1)) (hC : cells ≤ C) (hN : slots ≤ N) (hq : Q (some (.int (nar ty z))) T.heap locs) : own_Goes p e below (own_P s Q C N) (T.setTop (mkF m pc Ls (.int z :: rest))) := by
  obtain ⟨fs, hr, hrun, hended, hW, hsame⟩ := X.leave (v := some (.int (nar ty z))) (fun h => by rw [hret] at h; cases h) hlk
  exact ⟨_, _, retN X hx hret ht hd hr, hrun, hended, _, _, rfl, hq, ⟨_, rfl⟩, hW, hsame.mono hC hN⟩
theorem own_retR (X : Stand p l e R s m args below meth c T locs cells slots) (hx : p.tables.exec = Jvm.exec) (hlk : meth.locks = false) {pc : Nat} {Ls : Array Slot} {w : Value} {ty : FieldType} {rest : List Value} (hret : meth.sig.returnType = some ty) (ht : ty.isReference = true) (hw : w.isRef = true) (hn : narrow ty w = w) (hd : decode c.code pc = .ok (.areturn, 1)) (hC : cells ≤ C) (hN : slots ≤ N) (hq : Q (some w) T.heap locs) : own_Goes p e below (own_P s Q C N) (T.setTop (mkF m pc Ls (w :: rest))) := by
  obtain ⟨fs, hr, hrun, hended, hW, hsame⟩ := X.leave (v := some w) (fun h => by rw [hret] at h; cases h) hlk
  exact ⟨_, _, retOut X hx hret hn (Or.inr (Or.inr (Or.inr (Or.inr ⟨rfl, ht, hw⟩)))) hd hr, hrun, hended, _, _, rfl, hq, ⟨_, rfl⟩, hW, hsame.mono hC hN⟩
theorem own_retV (X : Stand p l e R s m args below meth c T locs cells slots) (hx : p.tables.exec = Jvm.exec) (hlk : meth.locks = false) {pc : Nat} {Ls : Array Slot} (hret : meth.sig.returnType = none) (hd : decode c.code pc = .ok (.return_, 1)) (hC : cells ≤ C) (hN : slots ≤ N) (hq : Q none T.heap locs) : own_Goes p e below (own_P s Q C N) (T.setTop (mkF m pc Ls [])) := by
  obtain ⟨fs, hr, hrun, hended, hW, hsame⟩ := X.leave (v := none) (fun _ => rfl) hlk
  exact ⟨_, _, X.returnOut hx hret hd hr, hrun, hended, _, _, rfl, hq, ⟨_, rfl⟩, hW, hsame.mono hC hN⟩
/-- the method y, called with as' on the heap h, returns so that Qc holds -/
def own_Does (l : Launch) (Z : State) (y : MethodName) (bytes : ByteArray) (maxL : Nat) (ret : Option FieldType) (ws : List Jvm.Cond) (rm : Room) (as' : Array Value) (h : Heap) (Qc : Option Value → Heap → List Loc → Prop) : Prop :=
  MetFree l y (head1 (Jvm.Cond.code y bytes maxL ret :: ws) rm) (fun a U => a = as' ∧ Z.Warmed39 U.vm ∧ U.heap = h) (fun _ _ _ _ _ => True) (fun _ U o U' => ∃ v L, o = .returned v ∧ Qc v U'.heap L ∧ FrameEnd U o U' L rm.cells rm.slots)
theorem own_body {y : MethodName} {bytes : ByteArray} {maxL : Nat} {ret : Option FieldType} {ws : List Jvm.Cond} {rm : Room} {as' : Array Value} (hpn : plainName y.cls = true)
    (body : ∀ (p : Program) (e : Env) (s : State) (m : MethodId) (below : List Frame) (meth : Method) (c : Code) (T : State), p.tables.exec = Jvm.exec → c.code = bytes → c.maxLocals = maxL → meth.sig.returnType = ret → meth.locks = false → meth.name = y.name → s.vm.findClass y.cls = some m.cls → Z.Warmed39 s.vm → Stand p l e rm s m as' below meth c T [] 0 0 → T.heap = h → own_Goes p e below (own_P s Q rm.cells rm.slots) (T.setTop (entryFrame m as' maxL))) :
    own_Does l Z y bytes maxL ret ws rm as' h Q := by
  refine MetFree.of_bodySF (plainFor_of_name hpn) hisR ?_
  intro p e s m args below meth c s₁ Bd hml0 hP hK
  obtain ⟨rfl, hZ, hh⟩ := hP
  exact body p e s m below meth c s₁ Bd.exec Bd.bytes hml0 Bd.returns Bd.notSynchronized (name_of_methodNamed Bd.named Bd.method).1 (findClass_of_methodNamed Bd.named) hZ (Stand.of_body Bd) (by rw [← hh, Bd.state]; rfl)
theorem own_bodyP {y : MethodName} {bytes : ByteArray} {maxL : Nat} {ret : Option FieldType} {ws : List Jvm.Cond} {rm : Room} {as' : Array Value} (hpn : plainFor y = true)
    (body : ∀ (p : Program) (e : Env) (s : State) (m : MethodId) (below : List Frame) (meth : Method) (c : Code) (T : State), p.tables.exec = Jvm.exec → c.code = bytes → c.maxLocals = maxL → meth.sig.returnType = ret → meth.locks = false → meth.name = y.name → s.vm.findClass y.cls = some m.cls → Z.Warmed39 s.vm → Stand p l e rm s m as' below meth c T [] 0 0 → T.heap = h → own_Goes p e below (own_P s Q rm.cells rm.slots) (T.setTop (entryFrame m as' maxL))) :
    own_Does l Z y bytes maxL ret ws rm as' h Q := by
  refine MetFree.of_bodySF hpn hisR ?_
  intro p e s m args below meth c s₁ Bd hml0 hP hK
  obtain ⟨rfl, hZ, hh⟩ := hP
  exact body p e s m below meth c s₁ Bd.exec Bd.bytes hml0 Bd.returns Bd.notSynchronized (name_of_methodNamed Bd.named Bd.method).1 (findClass_of_methodNamed Bd.named) hZ (Stand.of_body Bd) (by rw [← hh, Bd.state]; rfl)
/-- it returns w, and nothing has been written -/
def own_Is (w : Value) (h : Heap) : Option Value → Heap → List Loc → Prop := fun v h' L => v = some w ∧ L = [] ∧ h' = h
theorem own_callS (X : Stand p l e R s m args below meth c T locs cells slots) (hx : p.tables.exec = Jvm.exec) (hZ : Z.Warmed39 s.vm) {own : String} {index : Nat} {y : MethodName} {bytes : ByteArray} {maxL : Nat} {ret : Option FieldType} {rm : Room} {argsL rest : List Value} {Qc : Option Value → Heap → List Loc → Prop} {W : Nat}
    (hown : s.vm.findClass own = some m.cls) (w1 : (Cond.methodLink own index y).before a0 Z = true) (w2 : (Cond.static y).before a0 Z = true) (w3 : (Cond.initialized y.cls).before a0 Z = true) (w4 : (Cond.code y bytes maxL ret).before a0 Z = true)
    (hy : y.cls ≠ "java/lang/invoke/MethodHandle" ∧ y.cls ≠ "java/lang/invoke/VarHandle") (eT : T.heap = h) (D : own_Does l Z y bytes maxL ret [] rm argsL.toArray h Qc)
    (hf : rm.frames + 1 ≤ R.frames) (hl : W + (maxL + 11) + rm.locals ≤ R.locals) (hc : cells + rm.cells ≤ R.cells) (hn : slots + rm.slots ≤ R.slots)
    {pc : Nat} {Ls : Array Slot} {S : List Value} (hsize : Ls.size = c.maxLocals) (hlen : ∀ sig, parseMethodDescriptor y.desc = some sig → argsL.length = sig.parameters.length) (hstack : S = argsL.reverse ++ rest) (hW : 2 * 0 + (rest.map fun v => v.category).sum ≤ W) (hd : decode c.code pc = .ok (.invokestatic index, 3))
    (k : ∀ v T' L', Stand p l e R s m args below meth c T' (locs ++ L') (cells + rm.cells) (slots + rm.slots) → Qc v T'.heap L' → own_Goes p e below P (T'.setTop (mkF m (pc + 3) Ls (v.toList ++ rest)))) :
    own_Goes p e below P (T.setTop (mkF m pc Ls S)) := by
  obtain ⟨v, _, ⟨T', L', k', n'⟩, -, X', ⟨Lc, hQ, l', y', z'⟩, st⟩ := Jvm.LawKit.callS X hx hown (mvT hZ w1) (mvT hZ w2) (mvT hZ w3) (mvT hZ w4) hy (backOf (W := W) D hZ w4 w3 hf hl) (g := mkF m pc Ls S) rfl hsize (argsL := argsL) (rest := rest) hlen hstack hW hd (fun _ _ => ⟨rfl, eT, hc, hn⟩)
  dsimp only [Pt.U, Pt.locs, Pt.cells, Pt.slots] at X' l' y' z' st hQ
  subst l' y' z'
  exact own_by st (k v T' Lc X' hQ)
theorem own_callS0 (X : Stand p l e R s m args below meth c T locs cells slots) (hx : p.tables.exec = Jvm.exec) (hZ : Z.Warmed39 s.vm) {own : String} {index : Nat} {y : MethodName} {bytes : ByteArray} {maxL : Nat} {ret : Option FieldType} {fr lo : Nat} {argsL rest : List Value} {w : Value} {W : Nat}
    (hown : s.vm.findClass own = some m.cls) (w1 : (Cond.methodLink own index y).before a0 Z = true) (w2 : (Cond.static y).before a0 Z = true) (w3 : (Cond.initialized y.cls).before a0 Z = true) (w4 : (Cond.code y bytes maxL ret).before a0 Z = true)
    (hy : y.cls ≠ "java/lang/invoke/MethodHandle" ∧ y.cls ≠ "java/lang/invoke/VarHandle") (eT : T.heap = h) (D : own_Does l Z y bytes maxL ret [] { frames := fr, cells := 0, slots := 0, locals := lo } argsL.toArray h (own_Is w h))
    (hf : fr + 1 ≤ R.frames) (hl : W + (maxL + 11) + lo ≤ R.locals) (hc : cells ≤ R.cells) (hn : slots ≤ R.slots)
    {pc : Nat} {Ls : Array Slot} {S : List Value} (hsize : Ls.size = c.maxLocals) (hlen : ∀ sig, parseMethodDescriptor y.desc = some sig → argsL.length = sig.parameters.length) (hstack : S = argsL.reverse ++ rest) (hW : 2 * 0 + (rest.map fun v => v.category).sum ≤ W) (hd : decode c.code pc = .ok (.invokestatic index, 3))
    (k : ∀ T', Stand p l e R s m args below meth c T' locs cells slots → T'.heap = h → own_Goes p e below P (T'.setTop (mkF m (pc + 3) Ls (w :: rest)))) :
    own_Goes p e below P (T.setTop (mkF m pc Ls S)) := by
  refine own_callS X hx hZ hown w1 w2 w3 w4 hy eT D hf hl hc hn hsize hlen hstack hW hd fun v T' L' X' hQ => ?_
  obtain ⟨rfl, rfl, e'⟩ := hQ
  rw [List.append_nil] at X'
  exact k T' X' e'
theorem own_callV (X : Stand p l e R s m args below meth c T locs cells slots) (hx : p.tables.exec = Jvm.exec) (hZ : Z.Warmed39 s.vm) {own K : String} {index : Nat} {y : MethodName} {bytes : ByteArray} {maxL : Nat} {ret : Option FieldType} {rm : Room} {b : Addr} {argsL rest : List Value} {Qc : Option Value → Heap → List Loc → Prop} {W : Nat}
    (hown : s.vm.findClass own = some m.cls) (w1 : (Cond.methodLink own index y).before a0 Z = true) (w2 : (Cond.declares y).before a0 Z = true) (w3 : (Cond.selects K y y).before a0 Z = true) (w4 : (Cond.instanceMethod y).before a0 Z = true) (w5 : (Cond.code y bytes maxL ret).before a0 Z = true) (w6 : (Cond.initialized y.cls).before a0 Z = true)
    (hy : y.cls ≠ "java/lang/invoke/MethodHandle" ∧ y.cls ≠ "java/lang/invoke/VarHandle") (eT : T.heap = h) (E : Exa Z h b K) (D : own_Does l Z y bytes maxL ret [] rm (.ref b :: argsL).toArray h Qc)
    (hf : rm.frames + 1 ≤ R.frames) (hl : W + (maxL + 11) + rm.locals ≤ R.locals) (hc : cells + rm.cells ≤ R.cells) (hn : slots + rm.slots ≤ R.slots)
    {pc : Nat} {Ls : Array Slot} {S : List Value} (hsize : Ls.size = c.maxLocals) (hlen : ∀ sig, parseMethodDescriptor y.desc = some sig → argsL.length = sig.parameters.length) (hstack : S = argsL.reverse ++ .ref b :: rest) (hW : 2 * 0 + (rest.map fun v => v.category).sum ≤ W) (hd : decode c.code pc = .ok (.invokevirtual index, 3))
    (k : ∀ v T' L', Stand p l e R s m args below meth c T' (locs ++ L') (cells + rm.cells) (slots + rm.slots) → Qc v T'.heap L' → own_Goes p e below P (T'.setTop (mkF m (pc + 3) Ls (v.toList ++ rest)))) :
    own_Goes p e below P (T.setTop (mkF m pc Ls S)) := by
  obtain ⟨cq, kq, qa, -, qc⟩ := isOf (T := T) hZ eT E
  obtain ⟨v, _, ⟨T', L', k', n'⟩, -, X', ⟨Lc, hQ, l', y', z'⟩, st⟩ := X.virtualBack hx (y := y) (z := y) hown (mvT hZ w1) (mvT hZ w2) (notFace_of_selects (args := #[]) (mvT hZ w3)) (mvT hZ w3) (mvT hZ w4) hy (backOf (W := W) D hZ w5 w6 hf hl) qa qc (g := mkF m pc Ls S) rfl hsize (Steps.refl _) (argsL := argsL) (rest := rest) hlen hstack hW hd (fun _ _ => ⟨rfl, eT, hc, hn⟩)
  dsimp only [Pt.U, Pt.locs, Pt.cells, Pt.slots] at X' l' y' z' st hQ
  subst l' y' z'
  exact own_tr st (k v T' Lc X' hQ)
theorem own_callV0 (X : Stand p l e R s m args below meth c T locs cells slots) (hx : p.tables.exec = Jvm.exec) (hZ : Z.Warmed39 s.vm) {own K : String} {index : Nat} {y : MethodName} {bytes : ByteArray} {maxL : Nat} {ret : Option FieldType} {fr lo : Nat} {b : Addr} {argsL rest : List Value} {w : Value} {W : Nat}
    (hown : s.vm.findClass own = some m.cls) (w1 : (Cond.methodLink own index y).before a0 Z = true) (w2 : (Cond.declares y).before a0 Z = true) (w3 : (Cond.selects K y y).before a0 Z = true) (w4 : (Cond.instanceMethod y).before a0 Z = true) (w5 : (Cond.code y bytes maxL ret).before a0 Z = true) (w6 : (Cond.initialized y.cls).before a0 Z = true)
    (hy : y.cls ≠ "java/lang/invoke/MethodHandle" ∧ y.cls ≠ "java/lang/invoke/VarHandle") (eT : T.heap = h) (E : Exa Z h b K) (D : own_Does l Z y bytes maxL ret [] { frames := fr, cells := 0, slots := 0, locals := lo } (.ref b :: argsL).toArray h (own_Is w h))
    (hf : fr + 1 ≤ R.frames) (hl : W + (maxL + 11) + lo ≤ R.locals) (hc : cells ≤ R.cells) (hn : slots ≤ R.slots)
    {pc : Nat} {Ls : Array Slot} {S : List Value} (hsize : Ls.size = c.maxLocals) (hlen : ∀ sig, parseMethodDescriptor y.desc = some sig → argsL.length = sig.parameters.length) (hstack : S = argsL.reverse ++ .ref b :: rest) (hW : 2 * 0 + (rest.map fun v => v.category).sum ≤ W) (hd : decode c.code pc = .ok (.invokevirtual index, 3))
    (k : ∀ T', Stand p l e R s m args below meth c T' locs cells slots → T'.heap = h → own_Goes p e below P (T'.setTop (mkF m (pc + 3) Ls (w :: rest)))) :
    own_Goes p e below P (T.setTop (mkF m pc Ls S)) := by
  refine own_callV X hx hZ hown w1 w2 w3 w4 w5 w6 hy eT E D hf hl hc hn hsize hlen hstack hW hd fun v T' L' X' hQ => ?_
  obtain ⟨rfl, rfl, e'⟩ := hQ
  rw [List.append_nil] at X'
  exact k T' X' e'
theorem own_getS (X : Stand p l e R s m args below meth c T locs cells slots) (hx : p.tables.exec = Jvm.exec) (hZ : Z.Warmed39 s.vm) {own O n d : String} {index : Nat} (hown : s.vm.findClass own = some m.cls) (w : (Cond.fieldLink own index O n d).before a0 Z = true) (eT : T.heap = h) {v : Value} (F : Sta Z h O n d v)
    {pc : Nat} {Ls : Array Slot} {S : List Value} (hd : decode c.code pc = .ok (.getstatic index, 3))
    (k : ∀ T', Stand p l e R s m args below meth c T' locs cells slots → T'.heap = h → own_Goes p e below P (T'.setTop (mkF m (pc + 3) Ls (v :: S)))) :
    own_Goes p e below P (T.setTop (mkF m pc Ls S)) := by
  obtain ⟨T', X', e', st⟩ := getS X hx hZ (host := "") hown w Via.refl eT F (g := mkF m pc Ls S) rfl hd
  exact own_by st (k T' X' e')
theorem own_getF (X : Stand p l e R s m args below meth c T locs cells slots) (hx : p.tables.exec = Jvm.exec) (hZ : Z.Warmed39 s.vm) {own O n d : String} {index : Nat} (hown : s.vm.findClass own = some m.cls) (w : (Cond.fieldLink own index O n d).before a0 Z = true) (eT : T.heap = h) {a : Addr} {v : Value} (F : Fld Z h a O n d v)
    {pc : Nat} {Ls : Array Slot} {S : List Value} (hd : decode c.code pc = .ok (.getfield index, 3))
    (k : ∀ T', Stand p l e R s m args below meth c T' locs cells slots → T'.heap = h → own_Goes p e below P (T'.setTop (mkF m (pc + 3) Ls (v :: S)))) :
    own_Goes p e below P (T.setTop (mkF m pc Ls (.ref a :: S))) := by
  obtain ⟨T', X', e', st⟩ := getF X hx hZ (host := "") hown (Or.inl w) Via.refl eT F (g := mkF m pc Ls (.ref a :: S)) rfl rfl hd
  exact own_by st (k T' X' e')
/-! a callee or a road that may load a String constant -/
def own_PW (s : State) (Q : Option Value → Heap → List Loc → Prop) (C N : Nat) : Outcome → State → Prop := fun o s₂ => ∃ v L, o = .returned v ∧ Q v s₂.heap L ∧ ReturnedEndW s o s₂ L C N
theorem own_endW {vm0 : Vm} {k0 : Nat} (X : Stand p l e R (s.setVm vm0) m args below meth c T locs cells slots) (hS : s.Since vm0 k0) (hk : k0 ≤ T.heap.size) (hlk : meth.locks = false) (v : Option Value) (hv : meth.sig.returnType = none → v = none) (hC : cells ≤ C) (hN : slots ≤ N) (hq : Q v T.heap locs) :
    ∃ fs, (∀ (f : JFrame) (acts : List Action), f.method = m → f.locked = none → f.entered = [] → (doReturn e (T.setTop f) acts v).1 = T.setFrames fs) ∧ ∀ t0, Steps p.tables e below t0 (T.setFrames fs) → own_Goes p e below (own_PW s Q C N) t0 := by
  obtain ⟨fs, hr, hrun, hended, -, h1, h2, h3⟩ := X.leaveW hS hk hv hlk
  exact ⟨fs, hr, fun t0 st => ⟨_, _, st, hrun, hended, _, _, rfl, hq, ⟨_, rfl⟩, h1, h2, h3.mono hC hN⟩⟩
theorem own_retNW {vm0 : Vm} {k0 : Nat} (X : Stand p l e R (s.setVm vm0) m args below meth c T locs cells slots) (hS : s.Since vm0 k0) (hk : k0 ≤ T.heap.size) (hx : p.tables.exec = Jvm.exec) (hlk : meth.locks = false) {pc : Nat} {Ls : Array Slot} {z : Int32} {ty : FieldType} {rest : List Value} (hret : meth.sig.returnType = some ty) (ht : ty = .boolean ∨ ty = .byte ∨ ty = .char ∨ ty = .short) (hd : decode c.code pc = .ok (.ireturn, 1)) (hC : cells ≤ C) (hN : slots ≤ N) (hq : Q (some (.int (nar ty z))) T.heap locs) : own_Goes p e below (own_PW s Q C N) (T.setTop (mkF m pc Ls (.int z :: rest))) := by
  obtain ⟨fs, hr, k⟩ := own_endW X hS hk hlk (some (.int (nar ty z))) (fun h => by rw [hret] at h; cases h) hC hN hq
  exact k _ (retN X hx hret ht hd hr)
theorem own_retRW {vm0 : Vm} {k0 : Nat} (X : Stand p l e R (s.setVm vm0) m args below meth c T locs cells slots) (hS : s.Since vm0 k0) (hk : k0 ≤ T.heap.size) (hx : p.tables.exec = Jvm.exec) (hlk : meth.locks = false) {pc : Nat} {Ls : Array Slot} {w : Value} {ty : FieldType} {rest : List Value} (hret : meth.sig.returnType = some ty) (ht : ty.isReference = true) (hw : w.isRef = true) (hn : narrow ty w = w) (hd : decode c.code pc = .ok (.areturn, 1)) (hC : cells ≤ C) (hN : slots ≤ N) (hq : Q (some w) T.heap locs) : own_Goes p e below (own_PW s Q C N) (T.setTop (mkF m pc Ls (w :: rest))) := by
  obtain ⟨fs, hr, k⟩ := own_endW X hS hk hlk (some w) (fun h => by rw [hret] at h; cases h) hC hN hq
  exact k _ (retOut X hx hret hn (Or.inr (Or.inr (Or.inr (Or.inr ⟨rfl, ht, hw⟩)))) hd hr)
theorem own_retVW {vm0 : Vm} {k0 : Nat} (X : Stand p l e R (s.setVm vm0) m args below meth c T locs cells slots) (hS : s.Since vm0 k0) (hk : k0 ≤ T.heap.size) (hx : p.tables.exec = Jvm.exec) (hlk : meth.locks = false) {pc : Nat} {Ls : Array Slot} (hret : meth.sig.returnType = none) (hd : decode c.code pc = .ok (.return_, 1)) (hC : cells ≤ C) (hN : slots ≤ N) (hq : Q none T.heap locs) : own_Goes p e below (own_PW s Q C N) (T.setTop (mkF m pc Ls [])) := by
  obtain ⟨fs, hr, k⟩ := own_endW X hS hk hlk none (fun _ => rfl) hC hN hq
  exact k _ (X.returnOut hx hret hd hr)
def own_DoesW (l : Launch) (Z : State) (y : MethodName) (bytes : ByteArray) (maxL : Nat) (ret : Option FieldType) (ws : List Jvm.Cond) (rm : Room) (as' : Array Value) (h : Heap) (Qc : Option Value → Heap → List Loc → Prop) : Prop :=
  MetFree l y (head1 (Jvm.Cond.code y bytes maxL ret :: ws) rm) (fun a U => a = as' ∧ Z.Warmed39 U.vm ∧ U.heap = h) (fun _ _ _ _ _ => True) (fun _ U o U' => ∃ v L, o = .returned v ∧ Qc v U'.heap L ∧ ReturnedEndW U o U' L rm.cells rm.slots)
theorem own_bodyW {y : MethodName} {bytes : ByteArray} {maxL : Nat} {ret : Option FieldType} {ws : List Jvm.Cond} {rm : Room} {as' : Array Value} (hpn : plainName y.cls = true)
    (body : ∀ (p : Program) (e : Env) (s : State) (m : MethodId) (below : List Frame) (meth : Method) (c : Code) (T : State), p.tables.exec = Jvm.exec → c.code = bytes → c.maxLocals = maxL → meth.sig.returnType = ret → meth.locks = false → meth.name = y.name → (s.setVm s.vm).vm.findClass y.cls = some m.cls → Z.Warmed39 (s.setVm s.vm).vm → s.Since s.vm 0 → Stand p l e rm (s.setVm s.vm) m as' below meth c T [] 0 0 → T.heap = h → own_Goes p e below (own_PW s Q rm.cells rm.slots) (T.setTop (entryFrame m as' maxL))) :
    own_DoesW l Z y bytes maxL ret ws rm as' h Q := by
  refine MetFree.of_bodySF (plainFor_of_name hpn) hisR ?_
  intro p e s m args below meth c s₁ Bd hml0 hP hK
  obtain ⟨rfl, hZ, hh⟩ := hP
  exact body p e s m below meth c s₁ Bd.exec Bd.bytes hml0 Bd.returns Bd.notSynchronized (name_of_methodNamed Bd.named Bd.method).1 (findClass_of_methodNamed Bd.named) hZ ((State.WarmedH.refl s).since 0) (Stand.of_body Bd) (by rw [← hh, Bd.state]; rfl)
theorem own_ldcS {vm0 : Vm} {k0 : Nat} (X : Stand p l e R (s.setVm vm0) m args below meth c T locs cells slots) (hx : p.tables.exec = Jvm.exec) (hZ : Z.Warmed39 (s.setVm vm0).vm) {own text : String} {index : Nat} (hown : (s.setVm vm0).vm.findClass own = some m.cls) (w : (Cond.stringLink own index text).before a0 Z = true) (wS : ∀ a ∈ Bundle.stringAtoms, a.before a0 Z = true)
    (eT : T.heap = h) (hS : s.Since vm0 k0) (hk : k0 ≤ h.size) {pc : Nat} {Ls : Array Slot} {S : List Value} (hd : decode c.code pc = .ok (.ldc index, 2)) {n : Nat} (hn : 4 * text.toList.length ≤ n) (hbig : n ≤ 536870912) (hc : cells + 2 ≤ R.cells) (hl : slots + (n + 4) ≤ R.slots)
    (k : ∀ (a : Addr) (T' : State) (h' : Heap) (k1 : Nat), Stand p l e R (s.setVm T'.vm) m args below meth c T' locs (cells + 2) (slots + (n + 4)) → T'.heap = h' → Ext h h' → s.Since T'.vm k1 → k1 ≤ h'.size → Z.Warmed39 (s.setVm T'.vm).vm → (s.setVm T'.vm).vm.findClass own = some m.cls → own_Goes p e below P (T'.setTop (mkF m (pc + 2) Ls (.ref a :: S)))) :
    own_Goes p e below P (T.setTop (mkF m pc Ls S)) := by
  obtain ⟨a, T', h', k1, X', e', E', hS', hk', hZ', hown', st⟩ := ldcS X hx hZ hown w wS eT hS hk (g := mkF m pc Ls S) rfl hd hn hbig hc hl
  exact own_by st (k a T' h' k1 X' e' E' hS' hk' hZ' hown')
theorem own_callSS {vm0 : Vm} {k0 : Nat} (X : Stand p l e R (s.setVm vm0) m args below meth c T locs cells slots) (hx : p.tables.exec = Jvm.exec) (hZ : Z.Warmed39 (s.setVm vm0).vm) (hS : s.Since vm0 k0) (hk : k0 ≤ T.heap.size) {own : String} {index : Nat} {y : MethodName} {bytes : ByteArray} {maxL : Nat} {ret : Option FieldType} {rm : Room} {argsL rest : List Value} {Qc : Option Value → Heap → List Loc → Prop} {W : Nat}
    (hown : (s.setVm vm0).vm.findClass own = some m.cls) (w1 : (Cond.methodLink own index y).before a0 Z = true) (w2 : (Cond.static y).before a0 Z = true) (w3 : (Cond.initialized y.cls).before a0 Z = true) (w4 : (Cond.code y bytes maxL ret).before a0 Z = true)
    (hy : y.cls ≠ "java/lang/invoke/MethodHandle" ∧ y.cls ≠ "java/lang/invoke/VarHandle") (eT : T.heap = h) (D : own_DoesW l Z y bytes maxL ret [] rm argsL.toArray h Qc)
    (hf : rm.frames + 1 ≤ R.frames) (hl : W + (maxL + 11) + rm.locals ≤ R.locals) (hc : cells + rm.cells ≤ R.cells) (hn : slots + rm.slots ≤ R.slots)
    {pc : Nat} {Ls : Array Slot} {S : List Value} (hsize : Ls.size = c.maxLocals) (hlen : ∀ sig, parseMethodDescriptor y.desc = some sig → argsL.length = sig.parameters.length) (hstack : S = argsL.reverse ++ rest) (hW : 2 * 0 + (rest.map fun v => v.category).sum ≤ W) (hd : decode c.code pc = .ok (.invokestatic index, 3))
    (k : ∀ v T' L', Stand p l e R (s.setVm T'.vm) m args below meth c T' (locs ++ L') (cells + rm.cells) (slots + rm.slots) → s.Since T'.vm T'.heap.size → Z.Warmed39 (s.setVm T'.vm).vm → (s.setVm T'.vm).vm.findClass own = some m.cls → Qc v T'.heap L' → own_Goes p e below P (T'.setTop (mkF m (pc + 3) Ls (v.toList ++ rest)))) :
    own_Goes p e below P (T.setTop (mkF m pc Ls S)) := by
  obtain ⟨v, _, ⟨T', L', k', n'⟩, -, X', hS2, hg2, ⟨Lc, hQ, l', y', z'⟩, st⟩ := callSS X hx hown (mvT hZ w1) (mvT hZ w2) (mvT hZ w3) (mvT hZ w4) hy (backOfS (W := W) D hZ w4 w3 hf hl) (g := mkF m pc Ls S) rfl hsize (argsL := argsL) (rest := rest) hlen hstack hW hd (fun _ _ => ⟨rfl, eT, hc, hn⟩)
  dsimp only [Pt.U, Pt.locs, Pt.cells, Pt.slots] at X' l' y' z' st hQ hS2 hg2
  subst l' y' z'
  obtain ⟨X2, hS3, hZ3, hown3⟩ := rebS hS hk X' hS2 hg2 hZ hown
  exact own_tr st (k v T' Lc X2 hS3 hZ3 hown3 hQ)
theorem own_callIS {vm0 : Vm} {k0 : Nat} (X : Stand p l e R (s.setVm vm0) m args below meth c T locs cells slots) (hx : p.tables.exec = Jvm.exec) (hZ : Z.Warmed39 (s.setVm vm0).vm) (hS : s.Since vm0 k0) (hk : k0 ≤ T.heap.size) {own : String} {index : Nat} {y : MethodName} {bytes : ByteArray} {maxL : Nat} {rm : Room} {a : Addr} {argsL rest : List Value} {Qc : Option Value → Heap → List Loc → Prop} {W : Nat} (hy1 : y.name = "<init>")
    (hown : (s.setVm vm0).vm.findClass own = some m.cls) (w1 : (Cond.methodLink own index y).before a0 Z = true) (w2 : (Cond.instanceMethod y).before a0 Z = true) (w3 : (Cond.code y bytes maxL none).before a0 Z = true) (w4 : (Cond.initialized y.cls).before a0 Z = true)
    (hy : y.cls ≠ "java/lang/invoke/MethodHandle" ∧ y.cls ≠ "java/lang/invoke/VarHandle") (eT : T.heap = h) (D : own_DoesW l Z y bytes maxL none [] rm (.ref a :: argsL).toArray h Qc)
    (hf : rm.frames + 1 ≤ R.frames) (hl : W + (maxL + 11) + rm.locals ≤ R.locals) (hc : cells + rm.cells ≤ R.cells) (hn : slots + rm.slots ≤ R.slots)
    {pc : Nat} {Ls : Array Slot} {S : List Value} (hsize : Ls.size = c.maxLocals) (hlen : ∀ sig, parseMethodDescriptor y.desc = some sig → argsL.length = sig.parameters.length) (hstack : S = argsL.reverse ++ .ref a :: rest) (hW : 2 * 0 + (rest.map fun v => v.category).sum ≤ W) (hd : decode c.code pc = .ok (.invokespecial index, 3))
    (k : ∀ v T' L', Stand p l e R (s.setVm T'.vm) m args below meth c T' (locs ++ L') (cells + rm.cells) (slots + rm.slots) → s.Since T'.vm T'.heap.size → Z.Warmed39 (s.setVm T'.vm).vm → (s.setVm T'.vm).vm.findClass own = some m.cls → Qc v T'.heap L' → own_Goes p e below P (T'.setTop (mkF m (pc + 3) Ls (v.toList ++ rest)))) :
    own_Goes p e below P (T.setTop (mkF m pc Ls S)) := by
  obtain ⟨v, _, ⟨T', L', k', n'⟩, -, X', hS2, hg2, ⟨Lc, hQ, l', y', z'⟩, st⟩ := X.specialBackS hx (y := y) hy1 hown (mvT hZ w1) (mvT hZ w2) (mvT hZ w3) hy (backOfS (W := W) D hZ w3 w4 hf hl) (g := mkF m pc Ls S) rfl hsize (Steps.refl _) (a := a) (argsL := argsL) (rest := rest) hlen hstack hW hd (fun _ _ => ⟨rfl, eT, hc, hn⟩)
  dsimp only [Pt.U, Pt.locs, Pt.cells, Pt.slots] at X' l' y' z' st hQ hS2 hg2
  subst l' y' z'
  obtain ⟨X2, hS3, hZ3, hown3⟩ := rebS hS hk X' hS2 hg2 hZ hown
  exact own_tr st (k v T' Lc X2 hS3 hZ3 hown3 hQ)
theorem own_notIns {O N1 C1 K : String} {n : Nat} (w1 : (Cond.superclass C1 N1).before a0 Z = true) (w2 : (Cond.superclass N1 O).before a0 Z = true) (w3 : (Cond.noSuperclass O).before a0 Z = true) (wi : (Cond.instantiable K n).before a0 Z = true) (h1 : O ≠ K) (h2 : N1 ≠ K) (h3 : C1 ≠ K) : ∃ c t, Z.vm.findClass C1 = some c ∧ Z.vm.findClass K = some t ∧ Z.vm.assignable c t = false := by
  obtain ⟨t, kt, g1, g2, g3, g4, -⟩ := Cond.instantiable_spec wi
  have root : NS Z O K := by
    obtain ⟨c, k, q1, q2, q3, -, -⟩ := Cond.noSuperclass_spec w3
    have ne := ids_ne q1 g1 h1
    refine ⟨c, t, q1, g1, fun fuel => ?_⟩
    cases fuel with
    | zero => rfl
    | succ f => simp [Vm.isSubclassAux, ne, q2, q3]
  obtain ⟨c, t', q0, q1, n3⟩ := NS.step w1 (NS.step w2 root h2) h3
  cases g1.symm.trans q1
  obtain ⟨p, k, kp, r1, r2, r3, r4, r5, -, r7⟩ := Cond.superclass_spec q0 w1
  have ne := ids_ne q0 g1 h3
  have g5 : kt.isInterface = false := by
    cases hq : kt.isInterface
    · rfl
    · rw [hq] at g4; cases g4
  refine ⟨c, t, q0, g1, ?_⟩
  show Z.vm.assignableAux (255 + 1) c t = false
  simp [Vm.assignableAux, ne, r2, g2, r5, g3, g5, Vm.isSubclass, n3]
/-! from the case's words -/
theorem own_eqR {args : Array Value} {s : State} {a b : Term} {y : Addr} (h1 : (Cond.eq a b).value args s none s [] = some true) (h2 : b.eval args s none [] s = some (.ref y)) : a.eval args s none [] s = some (.ref y) := by
  simp only [Cond.value, h2] at h1
  cases ha : a.eval args s none [] s with
  | none => simp [ha] at h1
  | some x => cases x <;> simp [ha] at h1 ⊢ <;> exact h1
theorem own_eqI {args : Array Value} {s : State} {a : Term} {n : Int32} (h1 : (Cond.eq a (.int n)).value args s none s [] = some true) : a.eval args s none [] s = some (.int n) := by
  have h2 : (Term.int n).eval args s none [] s = some (.int n) := rfl
  simp only [Cond.value, h2] at h1
  cases ha : a.eval args s none [] s with
  | none => simp [ha] at h1
  | some x => cases x <;> simp [ha] at h1 ⊢ <;> exact h1
theorem own_fld {args : Array Value} {s : State} {t : Term} {a : Addr} {C n d : String} {v : Value} (ht : t.eval args s none [] s = some (.ref a)) (h : (Term.field t C n d).eval args s none [] s = some v) : Fld s s.heap a C n d v := Fld.start (by rw [← fld_at ht]; exact h)
/-- two objects whose field differs are two -/
theorem own_ne {a b : Addr} {C n d : String} {v w : Value} (F : Fld Z h a C n d v) (G : Fld Z h b C n d w) (hn : v ≠ w) : a ≠ b := fun q => by
  subst q
  obtain ⟨c1, f1, k1, i1, g1, h1, h2, -, -, -, -, h7⟩ := F
  obtain ⟨c2, f2, k2, i2, g2, e1, e2, -, -, -, -, e7⟩ := G
  cases h1.symm.trans e1
  cases h2.symm.trans e2
  exact hn (Option.some.inj (h7.symm.trans e7))
/-! arrays: the array at a has n components, the i-th is f i -/
def own_ArrF (Z : State) (h : Heap) (a : Addr) (ty : FieldType) (n : Nat) (f : Nat → Value) : Prop := ∃ cell, Arr Z h a cell ty ∧ cell.slots.size = n ∧ n < 2 ^ 31 ∧ ∀ i, i < n → cell.slots[i]? = some (f i)
theorem own_len {args : Array Value} {s : State} {t : Term} {a : Addr} {cell : Cell} {n : Int32} (h : (Term.length t).eval args s none [] s = some (.int n)) (ht : t.eval args s none [] s = some (.ref a)) (hc : s.arrayAt? a = some cell) : cell.slots.size < 2 ^ 31 ∧ cell.slots.size.toInt32 = n := by
  simp only [Term.eval, ht, hc, Option.bind_eq_bind, Option.bind_some] at h
  split at h
  · rename_i q
    exact ⟨q, by simpa using h⟩
  · cases h
theorem own_clamp {j : Int32} {i : Nat} (h : j.toInt = i) : j.toNatClampNeg = i := by
  show j.toInt.toNat = i
  omega
theorem own_in {j : Int32} {i n : Nat} (h : j.toInt = i) (hi : i < n) : ¬ (j < 0 ∨ n ≤ j.toNatClampNeg) := by
  rw [own_clamp h, Int32.lt_iff_toInt_lt]
  have q : (0 : Int32).toInt = 0 := rfl
  omega
theorem own_arrF {args : Array Value} {s : State} {t : Term} {a : Addr} {ty : FieldType} {f : Nat → Value} {n : Nat} {n32 : Int32} (ht : t.eval args s none [] s = some (.ref a)) (h1 : (Cond.arrayOf t ty).value args s none s [] = some true) (h2 : (Cond.eq (.length t) (.int n32)).value args s none s [] = some true) (hn : n32.toInt = n)
    (hel : ∀ cell, s.arrayAt? a = some cell → s.heap[a]? = some cell → cell.slots.size = n → ∀ i, i < n → cell.slots[i]? = some (f i)) : own_ArrF s s.heap a ty n f := by
  obtain ⟨cell, Ac⟩ := Arr.start ht h1
  have hat := Ac.fin (Vm.Alike.refl _)
  obtain ⟨q1, q2⟩ := own_len (own_eqI h2) ht hat
  have q3 : cell.slots.size = n := by
    have q4 := congrArg Int32.toInt q2
    rw [len_toInt q1, hn] at q4
    omega
  exact ⟨cell, Ac, q3, by omega, hel cell hat Ac.1 q3⟩
theorem own_el {args : Array Value} {s : State} {t : Term} {a : Addr} {cell : Cell} {j : Int32} {v : Value} {i : Nat} (ht : t.eval args s none [] s = some (.ref a)) (hc : s.heap[a]? = some cell) (h : (Term.elem t (.int j)).eval args s none [] s = some v) (hj : j.toInt = i) : cell.slots[i]? = some v := by
  have q := (elem_in h ht rfl hc).2
  rw [own_clamp hj] at q
  exact q
theorem own_ArrF.ext {h' : Heap} {a : Addr} {ty : FieldType} {n : Nat} {f : Nat → Value} (E : Ext h h') (F : own_ArrF Z h a ty n f) : own_ArrF Z h' a ty n f := by
  obtain ⟨cell, h1, h2⟩ := F
  exact ⟨cell, h1.ext E, h2⟩
theorem own_ArrF.keep {h' : Heap} {a : Addr} {ty : FieldType} {n : Nat} {f : Nat → Value} {b : Addr} {sl : Nat} {v : Value} (W : Wr h h' b sl v) (F : own_ArrF Z h a ty n f) (hne : a ≠ b) : own_ArrF Z h' a ty n f := by
  obtain ⟨cell, h1, h2⟩ := F
  exact ⟨cell, h1.other W hne, h2⟩
theorem own_ArrF.set {h' : Heap} {a : Addr} {ty : FieldType} {n : Nat} {f : Nat → Value} {j : Nat} {v : Value} (F : own_ArrF Z h a ty n f) (hj : j < n) (W : Wr h h' a j v) : own_ArrF Z h' a ty n (fun i => if i = j then v else f i) := by
  obtain ⟨cell, h1, h2, h3, h4⟩ := F
  refine ⟨cell.setSlot j v, h1.same W, by simp [Cell.setSlot, h2], h3, fun i hi => ?_⟩
  show _ = some (if i = j then v else f i)
  by_cases q : i = j
  · subst q
    rw [if_pos rfl]
    simp [Cell.setSlot, h2, hi]
  · rw [if_neg q, ← h4 i hi]
    exact Array.getElem?_setIfInBounds_ne (Ne.symm q)
theorem own_ArrF.mono {a : Addr} {ty : FieldType} {n : Nat} {f g : Nat → Value} (F : own_ArrF Z h a ty n f) (hg : ∀ i, i < n → f i = g i) : own_ArrF Z h a ty n g := by
  obtain ⟨cell, h1, h2, h3, h4⟩ := F
  exact ⟨cell, h1, h2, h3, fun i hi => by rw [h4 i hi, hg i hi]⟩
theorem own_alen (X : Stand p l e R s m args below meth c T locs cells slots) (hx : p.tables.exec = Jvm.exec) (hZ : Z.Warmed39 s.vm) (eT : T.heap = h) {a : Addr} {ty : FieldType} {n : Nat} {f : Nat → Value} (F : own_ArrF Z h a ty n f)
    {pc : Nat} {Ls : Array Slot} {S : List Value} (hd : decode c.code pc = .ok (.arraylength, 1)) (k : own_Goes p e below P (T.setTop (mkF m (pc + 1) Ls (.int n.toInt32 :: S)))) : own_Goes p e below P (T.setTop (mkF m pc Ls (.ref a :: S))) := by
  obtain ⟨cell, h1, h2, h3, h4⟩ := F
  subst h2
  exact own_by (fun _ q => X.arraylength hx (by rw [eT]; exact h1.1) (State.isArrayOf_alike hZ.alike h1.2.1) (g := mkF m pc Ls (.ref a :: S)) rfl rfl hd _ q) k
theorem own_aaload (X : Stand p l e R s m args below meth c T locs cells slots) (hx : p.tables.exec = Jvm.exec) (hZ : Z.Warmed39 s.vm) (eT : T.heap = h) {a : Addr} {ty : FieldType} {n : Nat} {f : Nat → Value} (F : own_ArrF Z h a ty n f) (hty : ty.isReference = true) {j : Int32} (i : Nat) (hj : j.toInt = i) (hi : i < n) {v : Value} (hv : f i = v)
    {pc : Nat} {Ls : Array Slot} {S : List Value} (hd : decode c.code pc = .ok (.aaload, 1)) (k : own_Goes p e below P (T.setTop (mkF m (pc + 1) Ls (v :: S)))) : own_Goes p e below P (T.setTop (mkF m pc Ls (.int j :: .ref a :: S))) := by
  obtain ⟨cell, h1, h2, h3, h4⟩ := F
  exact own_by (fun _ q => X.aaload hx (j := j) (v := v) (by rw [eT]; exact h1.1) (State.isArrayOf_alike hZ.alike h1.2.1) hty h1.2.2 (by rw [h2]; exact own_in hj hi) (by rw [own_clamp hj, h4 i hi, hv]) (g := mkF m pc Ls (.int j :: .ref a :: S)) rfl rfl hd _ q) k
theorem own_iaload (X : Stand p l e R s m args below meth c T locs cells slots) (hx : p.tables.exec = Jvm.exec) (hZ : Z.Warmed39 s.vm) (eT : T.heap = h) {a : Addr} {n : Nat} {f : Nat → Value} (F : own_ArrF Z h a .int n f) {j : Int32} (i : Nat) (hj : j.toInt = i) (hi : i < n) {v : Value} (hv : f i = v)
    {pc : Nat} {Ls : Array Slot} {S : List Value} (hd : decode c.code pc = .ok (.iaload, 1)) (k : own_Goes p e below P (T.setTop (mkF m (pc + 1) Ls (v :: S)))) : own_Goes p e below P (T.setTop (mkF m pc Ls (.int j :: .ref a :: S))) := by
  obtain ⟨cell, h1, h2, h3, h4⟩ := F
  exact own_by (fun _ q => X.iaload hx (j := j) (v := v) (by rw [eT]; exact h1.1) (State.isArrayOf_alike hZ.alike h1.2.1) h1.2.2 (by rw [h2]; exact own_in hj hi) (by rw [own_clamp hj, h4 i hi, hv]) (g := mkF m pc Ls (.int j :: .ref a :: S)) rfl rfl hd _ q) k
theorem own_baload (X : Stand p l e R s m args below meth c T locs cells slots) (hx : p.tables.exec = Jvm.exec) (hZ : Z.Warmed39 s.vm) (eT : T.heap = h) {a : Addr} {n : Nat} {f : Nat → Value} (F : own_ArrF Z h a .byte n f) {j : Int32} (i : Nat) (hj : j.toInt = i) (hi : i < n) {v : Value} (hv : f i = v)
    {pc : Nat} {Ls : Array Slot} {S : List Value} (hd : decode c.code pc = .ok (.baload, 1)) (k : own_Goes p e below P (T.setTop (mkF m (pc + 1) Ls (v :: S)))) : own_Goes p e below P (T.setTop (mkF m pc Ls (.int j :: .ref a :: S))) := by
  obtain ⟨cell, h1, h2, h3, h4⟩ := F
  exact own_by (fun _ q => X.baloadBytes hx (j := j) (v := v) (by rw [eT]; exact h1.1) (State.isArrayOf_alike hZ.alike h1.2.1) h1.2.2 (by rw [h2]; exact own_in hj hi) (by rw [own_clamp hj, h4 i hi, hv]) (g := mkF m pc Ls (.int j :: .ref a :: S)) rfl rfl hd _ q) k
theorem own_callVU0 (X : Stand p l e R s m args below meth c T locs cells slots) (hx : p.tables.exec = Jvm.exec) (hZ : Z.Warmed39 s.vm) {own K owner : String} {index : Nat} {y z : MethodName} {bytes : ByteArray} {maxL : Nat} {ret : Option FieldType} {fr lo : Nat} {b : Addr} {argsL rest : List Value} {w : Value} {W : Nat}
    (hown : s.vm.findClass own = some m.cls) (w1 : (Cond.methodLink own index y).before a0 Z = true) (w2 : (Cond.sameMethod y.cls owner y.name y.desc).before a0 Z = true) (w2' : (Cond.declares ⟨owner, y.name, y.desc⟩).before a0 Z = true) (w3 : (Cond.selects K y z).before a0 Z = true) (w4 : (Cond.instanceMethod z).before a0 Z = true) (w5 : (Cond.code z bytes maxL ret).before a0 Z = true) (w6 : (Cond.initialized z.cls).before a0 Z = true)
    (hy : owner ≠ "java/lang/invoke/MethodHandle" ∧ owner ≠ "java/lang/invoke/VarHandle") (eT : T.heap = h) (E : Exa Z h b K) (D : own_Does l Z z bytes maxL ret [] { frames := fr, cells := 0, slots := 0, locals := lo } (.ref b :: argsL).toArray h (own_Is w h))
    (hf : fr + 1 ≤ R.frames) (hl : W + (maxL + 11) + lo ≤ R.locals) (hc : cells ≤ R.cells) (hn : slots ≤ R.slots)
    {pc : Nat} {Ls : Array Slot} {S : List Value} (hsize : Ls.size = c.maxLocals) (hlen : ∀ sig, parseMethodDescriptor y.desc = some sig → argsL.length = sig.parameters.length) (hstack : S = argsL.reverse ++ .ref b :: rest) (hW : 2 * 0 + (rest.map fun v => v.category).sum ≤ W) (hd : decode c.code pc = .ok (.invokevirtual index, 3))
    (k : ∀ T', Stand p l e R s m args below meth c T' locs cells slots → T'.heap = h → own_Goes p e below P (T'.setTop (mkF m (pc + 3) Ls (w :: rest)))) :
    own_Goes p e below P (T.setTop (mkF m pc Ls S)) := by
  obtain ⟨cq, kq, qa, -, qc⟩ := isOf (T := T) hZ eT E
  obtain ⟨v, _, ⟨T', L', k', n'⟩, -, X', ⟨Lc, hQ, l', y', z'⟩, st⟩ := X.virtualBackUp hx (x := y) (y := z) hown (mvT hZ w1) (mvT hZ w2) (mvT hZ w2') hy (mvT hZ w3) (mvT hZ w4) (backOf (W := W) D hZ w5 w6 hf hl) qa qc (g := mkF m pc Ls S) rfl hsize (Steps.refl _) (argsL := argsL) (rest := rest) hlen hstack hW hd (fun _ _ => ⟨rfl, eT, hc, hn⟩)
  dsimp only [Pt.U, Pt.locs, Pt.cells, Pt.slots] at X' l' y' z' st hQ
  subst l' y' z'
  obtain ⟨rfl, rfl, e'⟩ := hQ
  rw [List.append_nil] at X'
  exact own_tr st (k T' X' e')
theorem own_getClass (X : Stand p l e R s m args below meth c T locs cells slots) (hx : p.tables.exec = Jvm.exec) (hZ : Z.Warmed39 s.vm) {own K : String} {index : Nat} {b mir : Addr} {cM : ClassId} {kM : Class} (hown : s.vm.findClass own = some m.cls) (w1 : (Cond.methodLink own index Jvm.Stand.gcN).before a0 Z = true) (w2 : (Cond.declares Jvm.Stand.gcN).before a0 Z = true) (w3 : (Cond.selects K Jvm.Stand.gcN Jvm.Stand.gcN).before a0 Z = true) (w4 : (Cond.instanceMethod Jvm.Stand.gcN).before a0 Z = true) (w5 : (Cond.native Jvm.Stand.gcN).before a0 Z = true)
    (eT : T.heap = h) (E : Exa Z h b K) (m1 : Z.vm.findClass K = some cM) (m2 : Z.vm.classes[cM]? = some kM) (m3 : kM.mirror = some mir)
    {pc : Nat} {Ls : Array Slot} {rest : List Value} (hsize : Ls.size = c.maxLocals) (hd : decode c.code pc = .ok (.invokevirtual index, 3)) (hf : 1 ≤ R.frames) (hl : 2 * 0 + (rest.map fun v => v.category).sum + (nativeFrameWords "java/lang/Object" "getClass" 1 + 11) ≤ R.locals)
    (k : ∀ T', Stand p l e R s m args below meth c T' locs cells slots → T'.heap = h → own_Goes p e below P (T'.setTop (mkF m (pc + 3) Ls (.ref mir :: rest)))) :
    own_Goes p e below P (T.setTop (mkF m pc Ls (.ref b :: rest))) := by
  obtain ⟨cq, kq, qa, qb, qc⟩ := isOf (T := T) hZ eT E
  have e1 : cq = cM := by
    rw [hZ.alike.findClass] at qa
    exact Option.some.inj (qa.symm.trans m1)
  subst e1
  obtain ⟨k', r1, r2⟩ := hZ.alike.2.2 _ _ m2
  cases qb.symm.trans r1
  obtain ⟨vm1, X', st⟩ := X.getClassOf hx hown (mvT hZ w1) (mvT hZ w2) (notFace_of_selects (args := #[]) (mvT hZ w3)) (mvT hZ w3) (mvT hZ w4) (mvT hZ w5) qa qc qb (by rw [r2]; exact m3) (g := mkF m pc Ls (.ref b :: rest)) rfl hsize rfl hd hf hl
  exact own_by st (k _ X' eT)
theorem own_callF0 (X : Stand p l e R s m args below meth c T locs cells slots) (hx : p.tables.exec = Jvm.exec) (hZ : Z.Warmed39 s.vm) {own K : String} {index count : Nat} {y z : MethodName} {bytes : ByteArray} {maxL : Nat} {ret : Option FieldType} {fr lo : Nat} {b : Addr} {argsL rest : List Value} {w : Value} {W : Nat}
    (hown : s.vm.findClass own = some m.cls) (w1 : (Cond.methodLink own index y).before a0 Z = true) (w2 : (Cond.declares y).before a0 Z = true) (w2' : (Cond.interfaceMethod y.cls y.cls y.name y.desc).before args s = true) (w3 : (Cond.selects K y z).before a0 Z = true) (w4 : (Cond.instanceMethod z).before a0 Z = true) (wp : (Cond.publicMethod z).before a0 Z = true) (wu : (Cond.unhidden K y.name y.desc).before a0 Z = true) (wc : (Cond.castable K y.cls).before a0 Z = true) (w5 : (Cond.code z bytes maxL ret).before a0 Z = true) (w6 : (Cond.initialized z.cls).before a0 Z = true)
    (hy : y.cls ≠ "java/lang/invoke/MethodHandle" ∧ y.cls ≠ "java/lang/invoke/VarHandle") (eT : T.heap = h) (E : Exa Z h b K) (D : own_Does l Z z bytes maxL ret [] { frames := fr, cells := 0, slots := 0, locals := lo } (.ref b :: argsL).toArray h (own_Is w h))
    (hf : fr + 1 ≤ R.frames) (hl : W + (maxL + 11) + lo ≤ R.locals) (hc : cells ≤ R.cells) (hn : slots ≤ R.slots)
    {pc : Nat} {Ls : Array Slot} {S : List Value} (hsize : Ls.size = c.maxLocals) (hlen : ∀ sig, parseMethodDescriptor y.desc = some sig → argsL.length = sig.parameters.length) (hstack : S = argsL.reverse ++ .ref b :: rest) (hW : 2 * 0 + (rest.map fun v => v.category).sum ≤ W) (hd : decode c.code pc = .ok (.invokeinterface index count, 5))
    (k : ∀ T', Stand p l e R s m args below meth c T' locs cells slots → T'.heap = h → own_Goes p e below P (T'.setTop (mkF m (pc + 5) Ls (w :: rest)))) :
    own_Goes p e below P (T.setTop (mkF m pc Ls S)) := by
  obtain ⟨cq, kq, qa, qb, qc⟩ := isOf (T := T) hZ eT E
  obtain ⟨v, _, ⟨T', L', k', n'⟩, -, X', ⟨Lc, hQ, l', y', z'⟩, st⟩ := X.interfaceBack hx (xi := y) (y := z) hown (mvT hZ w1) (mvT hZ w2) w2' (mvT hZ w3) (mvT hZ w4) (mvT hZ wp) (mvT hZ wu) (mvT hZ wc) hy (backOf (W := W) D hZ w5 w6 hf hl) qa qb qc (g := mkF m pc Ls S) rfl hsize (Steps.refl _) (argsL := argsL) (rest := rest) hlen hstack hW hd (fun _ _ => ⟨rfl, eT, hc, hn⟩)
  dsimp only [Pt.U, Pt.locs, Pt.cells, Pt.slots] at X' l' y' z' st hQ
  subst l' y' z'
  obtain ⟨rfl, rfl, e'⟩ := hQ
  rw [List.append_nil] at X'
  exact own_tr st (k T' X' e')
theorem own_cast (X : Stand p l e R s m args below meth c T locs cells slots) (hx : p.tables.exec = Jvm.exec) (hZ : Z.Warmed39 s.vm) {own K : String} {index : Nat} (hown : s.vm.findClass own = some m.cls) (w : (Cond.classLink own index K).before a0 Z = true) (eT : T.heap = h) {a : Addr} (F : Ins Z h a K true)
    {pc : Nat} {Ls : Array Slot} {S : List Value} (hd : decode c.code pc = .ok (.checkcast index, 3))
    (k : ∀ T', Stand p l e R s m args below meth c T' locs cells slots → T'.heap = h → own_Goes p e below P (T'.setTop (mkF m (pc + 3) Ls (.ref a :: S)))) :
    own_Goes p e below P (T.setTop (mkF m pc Ls (.ref a :: S))) := by
  obtain ⟨T', X', e', st⟩ := castY X hx hZ hown w eT F (g := mkF m pc Ls (.ref a :: S)) rfl rfl hd
  exact own_by st (k T' X' e')
def own_ArrC (Z : State) (h : Heap) (a : Addr) (ty : FieldType) (n : Nat) (f : Nat → Value) : Prop := ∃ cell, Arr Z h a cell ty ∧ FitC Z cell ∧ cell.slots.size = n ∧ n < 2 ^ 31 ∧ ∀ i, i < n → cell.slots[i]? = some (f i)
theorem own_ArrC.ext {h' : Heap} {a : Addr} {ty : FieldType} {n : Nat} {f : Nat → Value} (E : Ext h h') (F : own_ArrC Z h a ty n f) : own_ArrC Z h' a ty n f := by
  obtain ⟨cell, h1, h2⟩ := F
  exact ⟨cell, h1.ext E, h2⟩
theorem own_ArrF.fit {s : State} {a : Addr} {ty : FieldType} {n : Nat} {f : Nat → Value} (hf : Fit s) (F : own_ArrF s s.heap a ty n f) : own_ArrC s s.heap a ty n f := by
  obtain ⟨cell, h1, h2⟩ := F
  exact ⟨cell, h1, FitC.start hf h1, h2⟩
theorem own_clone (X : Stand p l e R s m args below meth c T locs cells slots) (hx : p.tables.exec = Jvm.exec) (hZ : Z.Warmed39 s.vm) {own ad : String} {index : Nat} {W : Nat} (hown : s.vm.findClass own = some m.cls)
    (w1 : (Cond.methodLink own index ⟨ad, "clone", "()Ljava/lang/Object;"⟩).before a0 Z = true) (w2 : (Cond.sameMethod ad "java/lang/Object" "clone" "()Ljava/lang/Object;").before a0 Z = true) (w3 : (Cond.native ⟨"java/lang/Object", "clone", "()Ljava/lang/Object;"⟩).before a0 Z = true)
    (w4 : (Cond.instanceMethod ⟨"java/lang/Object", "clone", "()Ljava/lang/Object;"⟩).before a0 Z = true) (w5 : (Cond.selects ad ⟨ad, "clone", "()Ljava/lang/Object;"⟩ ⟨"java/lang/Object", "clone", "()Ljava/lang/Object;"⟩).before a0 Z = true) (w6 : (Cond.castable ad "java/lang/Cloneable").before a0 Z = true)
    (eT : T.heap = h) {a : Addr} {ty : FieldType} {n : Nat} {f : Nat → Value} (A : own_ArrC Z h a ty n f) (E : Exa Z h a ad) {pc : Nat} {Ls : Array Slot} {rest : List Value} (hsize : Ls.size = c.maxLocals) (hd : decode c.code pc = .ok (.invokevirtual index, 3))
    (hf : 1 ≤ R.frames) (hW : 2 * 0 + (rest.map fun v => v.category).sum ≤ W) (hl : W + 14 ≤ R.locals) (hc : cells + 1 ≤ R.cells) (hsl : slots + n ≤ R.slots)
    (k : ∀ T' h', Stand p l e R s m args below meth c T' locs (cells + 1) (slots + n) → T'.heap = h' → Ext h h' → own_ArrF Z h' h.size ty n f → Exa Z h' h.size ad → own_Goes p e below P (T'.setTop (mkF m (pc + 3) Ls (.ref h.size :: rest)))) :
    own_Goes p e below P (T.setTop (mkF m pc Ls (.ref a :: rest))) := by
  obtain ⟨cell, h1, h2, h3, h4, h5⟩ := A
  obtain ⟨T', h', X', e', E', A', Ex', st⟩ := cloneA X hx hZ hown w1 w2 w3 w4 w5 w6 eT h1 E h2 (g := mkF m pc Ls (.ref a :: rest)) rfl hsize rfl hd hf (W := W) (cap := n) hW hl (by omega) hc hsl
  exact own_by st (k T' h' X' e' E' ⟨_, A', h3, h4, h5⟩ Ex')
/-! what is made and written -/
theorem own_Ext.refl (h : Heap) : Ext h h := ⟨Nat.le_refl _, fun _ _ q => q⟩
theorem own_Ext.trans {h h' h'' : Heap} (E : Ext h h') (E' : Ext h' h'') : Ext h h'' := ⟨Nat.le_trans E.1 E'.1, fun a c q => E'.2 a c (E.2 a c q)⟩
theorem own_Ext.keep {h h' h'' : Heap} {ws : List Addr} (E : Ext h h') (K : Keep h' h'' ws) (q : ∀ x ∈ ws, h.size ≤ x) : Ext h h'' :=
  ⟨Nat.le_trans E.1 K.1, fun a c r => K.2.1 a c (E.2 a c r) fun z => absurd (Array.getElem?_eq_some_iff.mp r).1 (Nat.not_lt.mpr (q a z))⟩
theorem own_Ext.wr {h h' h'' : Heap} {a : Addr} {sl : Nat} {v : Value} (E : Ext h h') (W : Wr h' h'' a sl v) (q : h.size ≤ a) : Ext h h'' := own_Ext.keep E (Keep.of_wr W) fun x hx => by cases List.mem_singleton.mp hx; exact q
theorem own_newO (X : Stand p l e R s m args below meth c T locs cells slots) (hx : p.tables.exec = Jvm.exec) (hZ : Z.Warmed39 s.vm) {own K : String} {index n : Nat} (hown : s.vm.findClass own = some m.cls) (w : (Cond.classLink own index K).before a0 Z = true) (wi : (Cond.instantiable K n).before a0 Z = true) (wz : (Cond.initialized K).before a0 Z = true) (eT : T.heap = h)
    {pc : Nat} {Ls : Array Slot} {S : List Value} (hd : decode c.code pc = .ok (.new index, 3)) (hc : cells + 1 ≤ R.cells) (hl : slots + n ≤ R.slots)
    (k : ∀ T' h', Stand p l e R s m args below meth c T' locs (cells + 1) (slots + n) → T'.heap = h' → Ext h h' → Exa Z h' h.size K → (∀ (O nm d : String) (ty : FieldType), Laid Z a0 K O nm d → parseFieldDescriptor d = some ty → Fld Z h' h.size O nm d (defaultValue ty)) → own_Goes p e below P (T'.setTop (mkF m (pc + 3) Ls (.ref h.size :: S)))) :
    own_Goes p e below P (T.setTop (mkF m pc Ls S)) := by
  obtain ⟨T', h', X', e', E', A', D', -, st⟩ := newO X hx hZ hown w wi wz eT (g := mkF m pc Ls S) rfl hd hc hl
  exact own_by st (k T' h' X' e' E' A' (fun O nm d ty q r => D' q r))
theorem own_callI (X : Stand p l e R s m args below meth c T locs cells slots) (hx : p.tables.exec = Jvm.exec) (hZ : Z.Warmed39 s.vm) {own : String} {index : Nat} {y : MethodName} {bytes : ByteArray} {maxL : Nat} {rm : Room} {a : Addr} {argsL rest : List Value} {Qc : Option Value → Heap → List Loc → Prop} {W : Nat} (hy1 : y.name = "<init>")
    (hown : s.vm.findClass own = some m.cls) (w1 : (Cond.methodLink own index y).before a0 Z = true) (w2 : (Cond.instanceMethod y).before a0 Z = true) (w3 : (Cond.code y bytes maxL none).before a0 Z = true) (w4 : (Cond.initialized y.cls).before a0 Z = true)
    (hy : y.cls ≠ "java/lang/invoke/MethodHandle" ∧ y.cls ≠ "java/lang/invoke/VarHandle") (eT : T.heap = h) (D : own_Does l Z y bytes maxL none [] rm (.ref a :: argsL).toArray h Qc)
    (hf : rm.frames + 1 ≤ R.frames) (hl : W + (maxL + 11) + rm.locals ≤ R.locals) (hc : cells + rm.cells ≤ R.cells) (hn : slots + rm.slots ≤ R.slots)
    {pc : Nat} {Ls : Array Slot} {S : List Value} (hsize : Ls.size = c.maxLocals) (hlen : ∀ sig, parseMethodDescriptor y.desc = some sig → argsL.length = sig.parameters.length) (hstack : S = argsL.reverse ++ .ref a :: rest) (hW : 2 * 0 + (rest.map fun v => v.category).sum ≤ W) (hd : decode c.code pc = .ok (.invokespecial index, 3))
    (k : ∀ v T' L', Stand p l e R s m args below meth c T' (locs ++ L') (cells + rm.cells) (slots + rm.slots) → Qc v T'.heap L' → own_Goes p e below P (T'.setTop (mkF m (pc + 3) Ls (v.toList ++ rest)))) :
    own_Goes p e below P (T.setTop (mkF m pc Ls S)) := by
  obtain ⟨v, _, ⟨T', L', k', n'⟩, -, X', ⟨Lc, hQ, l', y', z'⟩, st⟩ := X.specialBack hx (y := y) hy1 hown (mvT hZ w1) (mvT hZ w2) (mvT hZ w3) hy (backOf (W := W) D hZ w3 w4 hf hl) (g := mkF m pc Ls S) rfl hsize (Steps.refl _) (a := a) (argsL := argsL) (rest := rest) hlen hstack hW hd (fun _ _ => ⟨rfl, eT, hc, hn⟩)
  dsimp only [Pt.U, Pt.locs, Pt.cells, Pt.slots] at X' l' y' z' st hQ
  subst l' y' z'
  exact own_tr st (k v T' Lc X' hQ)
theorem own_initO (X : Stand p l e R s m args below meth c T locs cells slots) (hx : p.tables.exec = Jvm.exec) (hZ : Z.Warmed39 s.vm) {own : String} {idx : Nat} {a : Addr} {rest : List Value} {W : Nat} (hown : s.vm.findClass own = some m.cls) (w1 : (Cond.methodLink own idx Lib.objectInit).before a0 Z = true) (w2 : (Cond.instanceMethod Lib.objectInit).before a0 Z = true)
    (w3 : (Cond.code Lib.objectInit ⟨#[0xb1]⟩ 1 none).before a0 Z = true) (eT : T.heap = h) {pc : Nat} {Ls : Array Slot} (hsize : Ls.size = c.maxLocals) (hd : decode c.code pc = .ok (.invokespecial idx, 3)) (hf : 1 ≤ R.frames) (hW : 2 * 0 + (rest.map fun v => v.category).sum ≤ W) (hl : W + 12 ≤ R.locals)
    (k : ∀ T', Stand p l e R s m args below meth c T' locs cells slots → T'.heap = h → own_Goes p e below P (T'.setTop (mkF m (pc + 3) Ls rest))) :
    own_Goes p e below P (T.setTop (mkF m pc Ls (.ref a :: rest))) := by
  obtain ⟨T', X', e', st⟩ := initO X hx hZ hown w1 w2 w3 eT (g := mkF m pc Ls (.ref a :: rest)) rfl hsize rfl hd hf (W := W) hW hl
  exact own_by st (k T' X' e')
theorem own_putF (X : Stand p l e R s m args below meth c T locs cells slots) (hx : p.tables.exec = Jvm.exec) (hZ : Z.Warmed39 s.vm) {own O n d K : String} {index kk : Nat} {ty : FieldType} (hown : s.vm.findClass own = some m.cls) (w : (Cond.fieldLink own index O n d).before a0 Z = true)
    (eT : T.heap = h) {a : Addr} {v old : Value} (F : Fld Z h a O n d old) (E : Exa Z h a K) (L : (Cond.lays K O n d).before a0 Z = true ∨ ((Cond.laysFinal K O n d).before a0 Z = true ∧ own = O ∧ meth.name = "<init>")) (wi : (Cond.instantiable K kk).before a0 Z = true)
    (hty : parseFieldDescriptor d = some ty) (hn : narrow ty v = v) (hf : fits ty v = true) {pc : Nat} {Ls : Array Slot} {rest : List Value} (hd : decode c.code pc = .ok (.putfield index, 3))
    (k : ∀ T' h', Stand p l e R s m args below meth c T' (locs ++ [⟨a, Jvm.RoadKit.slotOf Z O n d⟩]) cells slots → T'.heap = h' → Wr h h' a (Jvm.RoadKit.slotOf Z O n d) v → own_Goes p e below P (T'.setTop (mkF m (pc + 3) Ls rest))) :
    own_Goes p e below P (T.setTop (mkF m pc Ls (v :: .ref a :: rest))) := by
  obtain ⟨T', h', X', e', W', st⟩ := putF X hx hZ hown (host := "") (Or.inl w) Via.refl eT F E L wi hty hn hf (g := mkF m pc Ls (v :: .ref a :: rest)) rfl rfl hd
  exact own_by st (k T' h' X' e' W')
theorem own_arr_new {a : Addr} {cA : ClassId} {ty : FieldType} {n : Int32} {i : Nat} (A : Arr Z h a (newA cA ty n) ty) (hn : n.toInt = i) : own_ArrF Z h a ty i (fun _ => defaultValue ty) := by
  have q : n.toNatClampNeg = i := own_clamp hn
  refine ⟨_, A, by rw [sz_new, q], ?_, fun j hj => ?_⟩
  · have := Int32.toInt_lt n; omega
  · simp [newA, q, hj]
theorem own_newR (X : Stand p l e R s m args below meth c T locs cells slots) (hx : p.tables.exec = Jvm.exec) (hZ : Z.Warmed39 s.vm) {own K : String} {index : Nat} (hown : s.vm.findClass own = some m.cls) (w1 : (Cond.classLink own index K).before a0 Z = true) (w2 : (Cond.arrayOver (.object K)).before a0 Z = true) (eT : T.heap = h)
    {pc : Nat} {Ls : Array Slot} {S : List Value} (hd : decode c.code pc = .ok (.anewarray index, 3)) {n : Int32} (i : Nat) (hi : n.toInt = i) (hb : i * 8 ≤ 536870912) (hc : cells + 1 ≤ R.cells) (hl : slots + i ≤ R.slots)
    (k : ∀ T' h' cA, Stand p l e R s m args below meth c T' locs (cells + 1) (slots + i) → T'.heap = h' → Ext h h' → Arr Z h' h.size (newA cA (.object K) n) (.object K) → Ovr Z cA K → own_Goes p e below P (T'.setTop (mkF m (pc + 3) Ls (.ref h.size :: S)))) :
    own_Goes p e below P (T.setTop (mkF m pc Ls (.int n :: S))) := by
  have q : n.toNatClampNeg = i := own_clamp hi
  have q2 : ¬ n < 0 := by rw [Int32.lt_iff_toInt_lt, hi]; have : (0 : Int32).toInt = 0 := rfl; omega
  obtain ⟨T', h', cA, X', e', E', A', O', st⟩ := newR X hx hZ hown w1 w2 eT (g := mkF m pc Ls (.int n :: S)) rfl hd rfl q2 (cap := i) (by omega) hb hc hl
  exact own_by st (k T' h' cA X' e' E' A' O')
theorem own_newP (X : Stand p l e R s m args below meth c T locs cells slots) (hx : p.tables.exec = Jvm.exec) (hZ : Z.Warmed39 s.vm) {aty : ArrayType} (w : (Cond.arrayClass (newarray.typeOf aty)).before a0 Z = true) (eT : T.heap = h)
    {pc : Nat} {Ls : Array Slot} {S : List Value} (hd : decode c.code pc = .ok (.newarray aty, 2)) {n : Int32} (i : Nat) (hi : n.toInt = i) (hb : i * 8 ≤ 536870912) (hc : cells + 1 ≤ R.cells) (hl : slots + i ≤ R.slots)
    (k : ∀ T' h', Stand p l e R s m args below meth c T' locs (cells + 1) (slots + i) → T'.heap = h' → Ext h h' → own_ArrF Z h' h.size (newarray.typeOf aty) i (fun _ => defaultValue (newarray.typeOf aty)) → own_Goes p e below P (T'.setTop (mkF m (pc + 2) Ls (.ref h.size :: S)))) :
    own_Goes p e below P (T.setTop (mkF m pc Ls (.int n :: S))) := by
  have q : n.toNatClampNeg = i := own_clamp hi
  have q2 : ¬ n < 0 := by rw [Int32.lt_iff_toInt_lt, hi]; have : (0 : Int32).toInt = 0 := rfl; omega
  obtain ⟨T', h', cA, X', e', E', A', st⟩ := newP X hx hZ w eT (g := mkF m pc Ls (.int n :: S)) rfl hd rfl q2 (cap := i) (by omega) hb hc hl
  exact own_by st (k T' h' X' e' E' (own_arr_new A' hi))
theorem own_stI (X : Stand p l e R s m args below meth c T locs cells slots) (hx : p.tables.exec = Jvm.exec) (hZ : Z.Warmed39 s.vm) (eT : T.heap = h) {a : Addr} {n : Nat} {f : Nat → Value} (F : own_ArrF Z h a .int n f) {j x : Int32} (i : Nat) (hj : j.toInt = i) (hi : i < n)
    {pc : Nat} {Ls : Array Slot} {S : List Value} (hd : decode c.code pc = .ok (.iastore, 1))
    (k : ∀ T' h', Stand p l e R s m args below meth c T' (locs ++ [⟨a, i⟩]) cells slots → T'.heap = h' → Wr h h' a i (.int x) → own_ArrF Z h' a .int n (fun q => if q = i then .int x else f q) → own_Goes p e below P (T'.setTop (mkF m (pc + 1) Ls S))) :
    own_Goes p e below P (T.setTop (mkF m pc Ls (.int x :: .int j :: .ref a :: S))) := by
  have F' := F
  obtain ⟨cell, h1, h2, h3, h4⟩ := F'
  have q := own_clamp hj
  obtain ⟨T', h', X', e', W', st⟩ := stI X hx hZ eT h1 (j := j) (x := x) (by rw [h2]; exact own_in hj hi) (g := mkF m pc Ls (.int x :: .int j :: .ref a :: S)) rfl rfl hd
  rw [q] at X' W'
  exact own_by st (k T' h' X' e' W' (F.set hi W'))
theorem own_stR (X : Stand p l e R s m args below meth c T locs cells slots) (hx : p.tables.exec = Jvm.exec) (hZ : Z.Warmed39 s.vm) (eT : T.heap = h) {a : Addr} {ty : FieldType} {n : Nat} {f : Nat → Value} (F : own_ArrF Z h a ty n f) (hty : ty.isReference = true) {v : Value} (hs : Sto Z h a v) {j : Int32} (i : Nat) (hj : j.toInt = i) (hi : i < n)
    {pc : Nat} {Ls : Array Slot} {S : List Value} (hd : decode c.code pc = .ok (.aastore, 1))
    (k : ∀ T' h', Stand p l e R s m args below meth c T' (locs ++ [⟨a, i⟩]) cells slots → T'.heap = h' → Wr h h' a i v → own_ArrF Z h' a ty n (fun q => if q = i then v else f q) → own_Goes p e below P (T'.setTop (mkF m (pc + 1) Ls S))) :
    own_Goes p e below P (T.setTop (mkF m pc Ls (v :: .int j :: .ref a :: S))) := by
  have F' := F
  obtain ⟨cell, h1, h2, h3, h4⟩ := F'
  have q := own_clamp hj
  obtain ⟨T', h', X', e', W', st⟩ := stR X hx hZ eT h1 (j := j) (v := v) (by rw [h2]; exact own_in hj hi) hty hs (g := mkF m pc Ls (v :: .int j :: .ref a :: S)) rfl rfl hd
  rw [q] at X' W'
  exact own_by st (k T' h' X' e' W' (F.set hi W'))
theorem own_Fr.snoc {k : Nat} {L : List Loc} {a : Addr} {i : Nat} (N : Fr k L) (q : k ≤ a) : Fr k (L ++ [⟨a, i⟩]) := N.app fun y hy => by cases List.mem_singleton.mp hy; exact q
/-- the first k components are filled -/
def own_pre (g : Nat → Value) (d : Value) (k : Nat) : Nat → Value := fun q => if q < k then g q else d
theorem own_pre_step (g : Nat → Value) (d : Value) (k : Nat) (q : Nat) : (if q = k then g k else own_pre g d k q) = own_pre g d (k + 1) q := by
  unfold own_pre
  by_cases h1 : q = k
  · subst h1; rw [if_pos rfl, if_pos (Nat.lt_succ_self _)]
  · rw [if_neg h1]
    by_cases h2 : q < k
    · rw [if_pos h2, if_pos (by omega)]
    · rw [if_neg h2, if_neg (by omega)]
theorem own_pre_all {g : Nat → Value} {d : Value} {n i : Nat} (hi : i < n) : own_pre g d n i = g i := if_pos hi
def own_ArrR (Z : State) (h : Heap) (a : Addr) (K : String) (n : Nat) (f : Nat → Value) : Prop := ∃ cell, Arr Z h a cell (.object K) ∧ Ovr Z cell.cls K ∧ cell.slots.size = n ∧ n < 2 ^ 31 ∧ ∀ i, i < n → cell.slots[i]? = some (f i)
theorem own_ArrR.toF {a : Addr} {K : String} {n : Nat} {f : Nat → Value} (F : own_ArrR Z h a K n f) : own_ArrF Z h a (.object K) n f := by
  obtain ⟨cell, h1, -, h2⟩ := F
  exact ⟨cell, h1, h2⟩
theorem own_ArrR.ext {h' : Heap} {a : Addr} {K : String} {n : Nat} {f : Nat → Value} (E : Ext h h') (F : own_ArrR Z h a K n f) : own_ArrR Z h' a K n f := by
  obtain ⟨cell, h1, h2⟩ := F
  exact ⟨cell, h1.ext E, h2⟩
theorem own_ArrR.keep {h' : Heap} {a : Addr} {K : String} {n : Nat} {f : Nat → Value} {b : Addr} {sl : Nat} {v : Value} (W : Wr h h' b sl v) (F : own_ArrR Z h a K n f) (hne : a ≠ b) : own_ArrR Z h' a K n f := by
  obtain ⟨cell, h1, h2⟩ := F
  exact ⟨cell, h1.other W hne, h2⟩
theorem own_ArrF.lt {a : Addr} {ty : FieldType} {n : Nat} {f : Nat → Value} (F : own_ArrF Z h a ty n f) : a < h.size := by
  obtain ⟨cell, h1, -⟩ := F
  exact h1.lt
theorem own_ArrR.lt {a : Addr} {K : String} {n : Nat} {f : Nat → Value} (F : own_ArrR Z h a K n f) : a < h.size := F.toF.lt
theorem own_newRp (g : Nat → Value) (X : Stand p l e R s m args below meth c T locs cells slots) (hx : p.tables.exec = Jvm.exec) (hZ : Z.Warmed39 s.vm) {own K : String} {index : Nat} (hown : s.vm.findClass own = some m.cls) (w1 : (Cond.classLink own index K).before a0 Z = true) (w2 : (Cond.arrayOver (.object K)).before a0 Z = true) (eT : T.heap = h)
    {pc : Nat} {Ls : Array Slot} {S : List Value} (hd : decode c.code pc = .ok (.anewarray index, 3)) {n : Int32} (i : Nat) (hi : n.toInt = i) (hb : i * 8 ≤ 536870912) (hc : cells + 1 ≤ R.cells) (hl : slots + i ≤ R.slots)
    (k : ∀ T' h', Stand p l e R s m args below meth c T' locs (cells + 1) (slots + i) → T'.heap = h' → Ext h h' → own_ArrR Z h' h.size K i (own_pre g .null 0) → own_Goes p e below P (T'.setTop (mkF m (pc + 3) Ls (.ref h.size :: S)))) :
    own_Goes p e below P (T.setTop (mkF m pc Ls (.int n :: S))) := by
  refine own_newR X hx hZ hown w1 w2 eT hd i hi hb hc hl fun T' h' cA X' e' E' A' O' => k T' h' X' e' E' ?_
  have q : n.toNatClampNeg = i := own_clamp hi
  refine ⟨_, A', O', by rw [sz_new, q], ?_, fun j hj => ?_⟩
  · have := Int32.toInt_lt n; omega
  · simp [newA, q, hj, own_pre, defaultValue]
theorem own_stRp (g : Nat → Value) (X : Stand p l e R s m args below meth c T locs cells slots) (hx : p.tables.exec = Jvm.exec) (hZ : Z.Warmed39 s.vm) (eT : T.heap = h) {a : Addr} {K : String} {n : Nat} {i : Nat} (F : own_ArrR Z h a K n (own_pre g .null i)) {v : Value} (hs : v = .null ∨ ∃ y, v = .ref y ∧ Exa Z h y K) (hv : v = g i) {j : Int32} (hj : j.toInt = i) (hi : i < n)
    {pc : Nat} {Ls : Array Slot} {S : List Value} (hd : decode c.code pc = .ok (.aastore, 1))
    (k : ∀ T' h', Stand p l e R s m args below meth c T' (locs ++ [⟨a, i⟩]) cells slots → T'.heap = h' → Wr h h' a i v → own_ArrR Z h' a K n (own_pre g .null (i + 1)) → own_Goes p e below P (T'.setTop (mkF m (pc + 1) Ls S))) :
    own_Goes p e below P (T.setTop (mkF m pc Ls (v :: .int j :: .ref a :: S))) := by
  have F' := F
  obtain ⟨cell, h1, hO, h2, h3, h4⟩ := F'
  have hst : Sto Z h a v := by
    rcases hs with rfl | ⟨y, rfl, Ey⟩
    · exact Or.inl rfl
    · exact Sto.of h1 hO (Ins.self Ey)
  refine own_stR X hx hZ eT F.toF rfl hst i hj hi hd fun T' h' X' e' W' F2 => k T' h' X' e' W' ?_
  refine ⟨cell.setSlot i v, h1.same W', hO, by simp [Cell.setSlot, h2], h3, fun q hq => ?_⟩
  rw [← own_pre_step, ← hv]
  by_cases z : q = i
  · subst z
    rw [if_pos rfl]
    simp [Cell.setSlot, h2, hq]
  · rw [if_neg z, ← h4 q hq]
    exact Array.getElem?_setIfInBounds_ne (Ne.symm z)
theorem own_newIp (g : Nat → Value) (X : Stand p l e R s m args below meth c T locs cells slots) (hx : p.tables.exec = Jvm.exec) (hZ : Z.Warmed39 s.vm) (w : (Cond.arrayClass .int).before a0 Z = true) (eT : T.heap = h)
    {pc : Nat} {Ls : Array Slot} {S : List Value} (hd : decode c.code pc = .ok (.newarray .int, 2)) {n : Int32} (i : Nat) (hi : n.toInt = i) (hb : i * 8 ≤ 536870912) (hc : cells + 1 ≤ R.cells) (hl : slots + i ≤ R.slots)
    (k : ∀ T' h', Stand p l e R s m args below meth c T' locs (cells + 1) (slots + i) → T'.heap = h' → Ext h h' → own_ArrF Z h' h.size .int i (own_pre g (.int 0) 0) → own_Goes p e below P (T'.setTop (mkF m (pc + 2) Ls (.ref h.size :: S)))) :
    own_Goes p e below P (T.setTop (mkF m pc Ls (.int n :: S))) :=
  own_newP X hx hZ (aty := .int) w eT hd i hi hb hc hl fun T' h' X' e' E' F => k T' h' X' e' E' (F.mono fun _ _ => rfl)
theorem own_stIp (g : Nat → Value) (X : Stand p l e R s m args below meth c T locs cells slots) (hx : p.tables.exec = Jvm.exec) (hZ : Z.Warmed39 s.vm) (eT : T.heap = h) {a : Addr} {n : Nat} {i : Nat} (F : own_ArrF Z h a .int n (own_pre g (.int 0) i)) {j x : Int32} (hv : .int x = g i) (hj : j.toInt = i) (hi : i < n)
    {pc : Nat} {Ls : Array Slot} {S : List Value} (hd : decode c.code pc = .ok (.iastore, 1))
    (k : ∀ T' h', Stand p l e R s m args below meth c T' (locs ++ [⟨a, i⟩]) cells slots → T'.heap = h' → Wr h h' a i (.int x) → own_ArrF Z h' a .int n (own_pre g (.int 0) (i + 1)) → own_Goes p e below P (T'.setTop (mkF m (pc + 1) Ls S))) :
    own_Goes p e below P (T.setTop (mkF m pc Ls (.int x :: .int j :: .ref a :: S))) :=
  own_stI X hx hZ eT F i hj hi hd fun T' h' X' e' W' F2 => k T' h' X' e' W' (F2.mono fun q _ => by rw [hv]; exact own_pre_step g (.int 0) i q)
/-! ints -/
theorem own_mask (x : Int32) : (x &&& 2147483647).toInt = x.toInt % 2 ^ 31 := Jvm.Kit.i32_mask x 2147483647 (k := 31) (by decide) (by decide)
theorem own_mod (x n : Int32) (M : Int) (hM : n.toInt = M) (hn : 0 < M) : 0 ≤ ((x &&& 2147483647) % n).toInt ∧ ((x &&& 2147483647) % n).toInt < M := by
  have h1 := own_mask x
  rw [Int32.toInt_mod]
  have h2 : 0 ≤ (x &&& 2147483647).toInt := by omega
  subst hM
  exact ⟨Int.tmod_nonneg _ h2, Int.tmod_lt_of_pos _ hn⟩
theorem own_mask2 (x : Int32) : 0 ≤ (x &&& 3).toInt ∧ (x &&& 3).toInt < 4 := by
  have h1 : (x &&& 3).toInt = x.toInt % 2 ^ 2 := Jvm.Kit.i32_mask x 3 (k := 2) (by decide) (by decide)
  omega
theorem own_mask3 (x : Int32) : 0 ≤ (x &&& 7).toInt ∧ (x &&& 7).toInt < 8 := by
  have h1 : (x &&& 7).toInt = x.toInt % 2 ^ 3 := Jvm.Kit.i32_mask x 7 (k := 3) (by decide) (by decide)
  omega
theorem own_eqInt {x y : Int32} (h : x.toInt = y.toInt) : x = y := Int32.toInt_inj.mp h
theorem own_nat {x : Int32} {n : Nat} (h0 : 0 ≤ x.toInt) (h1 : x.toInt < n) : ∃ i : Nat, i < n ∧ x.toInt = i := ⟨x.toInt.toNat, by omega, by omega⟩
end OwnKit

theorem own_pd0 : parseMethodDescriptor "(I)Lcom/example/kittiwake/kittiwake/IntentFlag;" = some ⟨[.int], some (.object "com/example/kittiwake/kittiwake/IntentFlag")⟩ := by decide +kernel
theorem own_pd1 : parseMethodDescriptor "(I)I" = some ⟨[.int], some .int⟩ := by decide +kernel
theorem own_pd2 : parseMethodDescriptor "()I" = some ⟨[], some .int⟩ := by decide +kernel
theorem own_pd3 : parseMethodDescriptor "(I)Z" = some ⟨[.int], some .boolean⟩ := by decide +kernel
theorem own_pn0 : plainName "com/example/kittiwake/kittiwake/IntentFlagIsSetInPinLaw" = true := by first | (simp [plainName, overriddenIn]; done) | decide +kernel
theorem own_pn1 : plainName "com/example/kittiwake/kittiwake/IntentFlag" = true := by first | (simp [plainName, overriddenIn]; done) | decide +kernel
theorem own_w0 {a0 : Array Value} {Z : State} (hw : ∀ d ∈ tables_1, d.before a0 Z = true) : (Jvm.Cond.constant "com/example/kittiwake/kittiwake/IntentFlagIsSetInPinLaw" 46 (2147483647 : Int32)).before a0 Z = true := hw _ (List.mem_of_getElem? (i := 0) rfl)
theorem own_w1 {a0 : Array Value} {Z : State} (hw : ∀ d ∈ tables_1, d.before a0 Z = true) : (Jvm.Cond.methodLink "com/example/kittiwake/kittiwake/IntentFlagIsSetInPinLaw" 47 (⟨"com/example/kittiwake/kittiwake/IntentFlagIsSetInPinLaw", "flagAt", "(I)Lcom/example/kittiwake/kittiwake/IntentFlag;"⟩ : MethodName)).before a0 Z = true := hw _ (List.mem_of_getElem? (i := 1) rfl)
theorem own_w2 {a0 : Array Value} {Z : State} (hw : ∀ d ∈ tables_1, d.before a0 Z = true) : (Jvm.Cond.static (⟨"com/example/kittiwake/kittiwake/IntentFlagIsSetInPinLaw", "flagAt", "(I)Lcom/example/kittiwake/kittiwake/IntentFlag;"⟩ : MethodName)).before a0 Z = true := hw _ (List.mem_of_getElem? (i := 2) rfl)
theorem own_w3 {a0 : Array Value} {Z : State} (hw : ∀ d ∈ tables_1, d.before a0 Z = true) : (Jvm.Cond.initialized "com/example/kittiwake/kittiwake/IntentFlagIsSetInPinLaw").before a0 Z = true := hw _ (List.mem_of_getElem? (i := 3) rfl)
theorem own_w4 {a0 : Array Value} {Z : State} (hw : ∀ d ∈ tables_1, d.before a0 Z = true) : (Jvm.Cond.code (⟨"com/example/kittiwake/kittiwake/IntentFlagIsSetInPinLaw", "flagAt", "(I)Lcom/example/kittiwake/kittiwake/IntentFlag;"⟩ : MethodName) method_2_code 1 (Option.some (FieldType.object "com/example/kittiwake/kittiwake/IntentFlag"))).before a0 Z = true := hw _ (List.mem_of_getElem? (i := 4) rfl)
theorem own_w5 {a0 : Array Value} {Z : State} (hw : ∀ d ∈ tables_1, d.before a0 Z = true) : (Jvm.Cond.fieldLink "com/example/kittiwake/kittiwake/IntentFlagIsSetInPinLaw" 7 "com/example/kittiwake/kittiwake/IntentFlag" "NEW_TASK" "Lcom/example/kittiwake/kittiwake/IntentFlag;").before a0 Z = true := hw _ (List.mem_of_getElem? (i := 5) rfl)
theorem own_w6 {a0 : Array Value} {Z : State} (hw : ∀ d ∈ tables_1, d.before a0 Z = true) : (Jvm.Cond.initialized "com/example/kittiwake/kittiwake/IntentFlag").before a0 Z = true := hw _ (List.mem_of_getElem? (i := 6) rfl)
theorem own_w7 {a0 : Array Value} {Z : State} (hw : ∀ d ∈ tables_1, d.before a0 Z = true) : (Jvm.Cond.laysStatic "com/example/kittiwake/kittiwake/IntentFlag" "NEW_TASK" "Lcom/example/kittiwake/kittiwake/IntentFlag;").before a0 Z = true := hw _ (List.mem_of_getElem? (i := 7) rfl)
theorem own_w8 {a0 : Array Value} {Z : State} (hw : ∀ d ∈ tables_1, d.before a0 Z = true) : (Jvm.Cond.methodLink "com/example/kittiwake/kittiwake/IntentFlagIsSetInPinLaw" 53 (⟨"com/example/kittiwake/kittiwake/IntentFlagIsSetInPinLaw", "bitAt", "(I)I"⟩ : MethodName)).before a0 Z = true := hw _ (List.mem_of_getElem? (i := 8) rfl)
theorem own_w9 {a0 : Array Value} {Z : State} (hw : ∀ d ∈ tables_1, d.before a0 Z = true) : (Jvm.Cond.static (⟨"com/example/kittiwake/kittiwake/IntentFlagIsSetInPinLaw", "bitAt", "(I)I"⟩ : MethodName)).before a0 Z = true := hw _ (List.mem_of_getElem? (i := 9) rfl)
theorem own_w10 {a0 : Array Value} {Z : State} (hw : ∀ d ∈ tables_1, d.before a0 Z = true) : (Jvm.Cond.code (⟨"com/example/kittiwake/kittiwake/IntentFlagIsSetInPinLaw", "bitAt", "(I)I"⟩ : MethodName) method_3_code 1 (Option.some FieldType.int)).before a0 Z = true := hw _ (List.mem_of_getElem? (i := 10) rfl)
theorem own_w11 {a0 : Array Value} {Z : State} (hw : ∀ d ∈ tables_1, d.before a0 Z = true) : (Jvm.Cond.methodLink "com/example/kittiwake/kittiwake/IntentFlagIsSetInPinLaw" 57 (⟨"com/example/kittiwake/kittiwake/IntentFlag", "value", "()I"⟩ : MethodName)).before a0 Z = true := hw _ (List.mem_of_getElem? (i := 11) rfl)
theorem own_w12 {a0 : Array Value} {Z : State} (hw : ∀ d ∈ tables_1, d.before a0 Z = true) : (Jvm.Cond.declares (⟨"com/example/kittiwake/kittiwake/IntentFlag", "value", "()I"⟩ : MethodName)).before a0 Z = true := hw _ (List.mem_of_getElem? (i := 12) rfl)
theorem own_w13 {a0 : Array Value} {Z : State} (hw : ∀ d ∈ tables_1, d.before a0 Z = true) : (Jvm.Cond.instanceMethod (⟨"com/example/kittiwake/kittiwake/IntentFlag", "value", "()I"⟩ : MethodName)).before a0 Z = true := hw _ (List.mem_of_getElem? (i := 13) rfl)
theorem own_w14 {a0 : Array Value} {Z : State} (hw : ∀ d ∈ tables_1, d.before a0 Z = true) : (Jvm.Cond.selects "com/example/kittiwake/kittiwake/IntentFlag" (⟨"com/example/kittiwake/kittiwake/IntentFlag", "value", "()I"⟩ : MethodName) (⟨"com/example/kittiwake/kittiwake/IntentFlag", "value", "()I"⟩ : MethodName)).before a0 Z = true := hw _ (List.mem_of_getElem? (i := 14) rfl)
theorem own_w15 {a0 : Array Value} {Z : State} (hw : ∀ d ∈ tables_1, d.before a0 Z = true) : (Jvm.Cond.code (⟨"com/example/kittiwake/kittiwake/IntentFlag", "value", "()I"⟩ : MethodName) prog_12_method_4_code 1 (Option.some FieldType.int)).before a0 Z = true := hw _ (List.mem_of_getElem? (i := 15) rfl)
theorem own_w16 {a0 : Array Value} {Z : State} (hw : ∀ d ∈ tables_1, d.before a0 Z = true) : (Jvm.Cond.fieldLink "com/example/kittiwake/kittiwake/IntentFlag" 59 "com/example/kittiwake/kittiwake/IntentFlag" "value" "I").before a0 Z = true := hw _ (List.mem_of_getElem? (i := 16) rfl)
theorem own_w18 {a0 : Array Value} {Z : State} (hw : ∀ d ∈ tables_1, d.before a0 Z = true) : (Jvm.Cond.methodLink "com/example/kittiwake/kittiwake/IntentFlagIsSetInPinLaw" 61 (⟨"com/example/kittiwake/kittiwake/IntentFlag", "isSetIn", "(I)Z"⟩ : MethodName)).before a0 Z = true := hw _ (List.mem_of_getElem? (i := 18) rfl)
theorem own_w19 {a0 : Array Value} {Z : State} (hw : ∀ d ∈ tables_1, d.before a0 Z = true) : (Jvm.Cond.declares (⟨"com/example/kittiwake/kittiwake/IntentFlag", "isSetIn", "(I)Z"⟩ : MethodName)).before a0 Z = true := hw _ (List.mem_of_getElem? (i := 19) rfl)
theorem own_w20 {a0 : Array Value} {Z : State} (hw : ∀ d ∈ tables_1, d.before a0 Z = true) : (Jvm.Cond.instanceMethod (⟨"com/example/kittiwake/kittiwake/IntentFlag", "isSetIn", "(I)Z"⟩ : MethodName)).before a0 Z = true := hw _ (List.mem_of_getElem? (i := 20) rfl)
theorem own_w21 {a0 : Array Value} {Z : State} (hw : ∀ d ∈ tables_1, d.before a0 Z = true) : (Jvm.Cond.selects "com/example/kittiwake/kittiwake/IntentFlag" (⟨"com/example/kittiwake/kittiwake/IntentFlag", "isSetIn", "(I)Z"⟩ : MethodName) (⟨"com/example/kittiwake/kittiwake/IntentFlag", "isSetIn", "(I)Z"⟩ : MethodName)).before a0 Z = true := hw _ (List.mem_of_getElem? (i := 21) rfl)
theorem own_w22 {a0 : Array Value} {Z : State} (hw : ∀ d ∈ tables_1, d.before a0 Z = true) : (Jvm.Cond.code (⟨"com/example/kittiwake/kittiwake/IntentFlag", "isSetIn", "(I)Z"⟩ : MethodName) prog_12_method_5_code 2 (Option.some FieldType.boolean)).before a0 Z = true := hw _ (List.mem_of_getElem? (i := 22) rfl)
theorem own_w23 {a0 : Array Value} {Z : State} (hw : ∀ d ∈ tables_1, d.before a0 Z = true) : (Jvm.Cond.fieldLink "com/example/kittiwake/kittiwake/IntentFlagIsSetInPinLaw" 16 "com/example/kittiwake/kittiwake/IntentFlag" "CLEAR_TASK" "Lcom/example/kittiwake/kittiwake/IntentFlag;").before a0 Z = true := hw _ (List.mem_of_getElem? (i := 23) rfl)
theorem own_w24 {a0 : Array Value} {Z : State} (hw : ∀ d ∈ tables_1, d.before a0 Z = true) : (Jvm.Cond.laysStatic "com/example/kittiwake/kittiwake/IntentFlag" "CLEAR_TASK" "Lcom/example/kittiwake/kittiwake/IntentFlag;").before a0 Z = true := hw _ (List.mem_of_getElem? (i := 24) rfl)
theorem own_w25 {a0 : Array Value} {Z : State} (hw : ∀ d ∈ tables_1, d.before a0 Z = true) : (Jvm.Cond.fieldLink "com/example/kittiwake/kittiwake/IntentFlagIsSetInPinLaw" 34 "com/example/kittiwake/kittiwake/IntentFlag" "REORDER_TO_FRONT" "Lcom/example/kittiwake/kittiwake/IntentFlag;").before a0 Z = true := hw _ (List.mem_of_getElem? (i := 25) rfl)
theorem own_w26 {a0 : Array Value} {Z : State} (hw : ∀ d ∈ tables_1, d.before a0 Z = true) : (Jvm.Cond.laysStatic "com/example/kittiwake/kittiwake/IntentFlag" "REORDER_TO_FRONT" "Lcom/example/kittiwake/kittiwake/IntentFlag;").before a0 Z = true := hw _ (List.mem_of_getElem? (i := 26) rfl)
theorem own_w27 {a0 : Array Value} {Z : State} (hw : ∀ d ∈ tables_1, d.before a0 Z = true) : (Jvm.Cond.fieldLink "com/example/kittiwake/kittiwake/IntentFlagIsSetInPinLaw" 22 "com/example/kittiwake/kittiwake/IntentFlag" "NEW_DOCUMENT" "Lcom/example/kittiwake/kittiwake/IntentFlag;").before a0 Z = true := hw _ (List.mem_of_getElem? (i := 27) rfl)
theorem own_w28 {a0 : Array Value} {Z : State} (hw : ∀ d ∈ tables_1, d.before a0 Z = true) : (Jvm.Cond.laysStatic "com/example/kittiwake/kittiwake/IntentFlag" "NEW_DOCUMENT" "Lcom/example/kittiwake/kittiwake/IntentFlag;").before a0 Z = true := hw _ (List.mem_of_getElem? (i := 28) rfl)
theorem own_w29 {a0 : Array Value} {Z : State} (hw : ∀ d ∈ tables_1, d.before a0 Z = true) : (Jvm.Cond.fieldLink "com/example/kittiwake/kittiwake/IntentFlagIsSetInPinLaw" 13 "com/example/kittiwake/kittiwake/IntentFlag" "TASK_ON_HOME" "Lcom/example/kittiwake/kittiwake/IntentFlag;").before a0 Z = true := hw _ (List.mem_of_getElem? (i := 29) rfl)
theorem own_w30 {a0 : Array Value} {Z : State} (hw : ∀ d ∈ tables_1, d.before a0 Z = true) : (Jvm.Cond.laysStatic "com/example/kittiwake/kittiwake/IntentFlag" "TASK_ON_HOME" "Lcom/example/kittiwake/kittiwake/IntentFlag;").before a0 Z = true := hw _ (List.mem_of_getElem? (i := 30) rfl)
theorem own_w31 {a0 : Array Value} {Z : State} (hw : ∀ d ∈ tables_1, d.before a0 Z = true) : (Jvm.Cond.fieldLink "com/example/kittiwake/kittiwake/IntentFlagIsSetInPinLaw" 28 "com/example/kittiwake/kittiwake/IntentFlag" "SINGLE_TOP" "Lcom/example/kittiwake/kittiwake/IntentFlag;").before a0 Z = true := hw _ (List.mem_of_getElem? (i := 31) rfl)
theorem own_w32 {a0 : Array Value} {Z : State} (hw : ∀ d ∈ tables_1, d.before a0 Z = true) : (Jvm.Cond.laysStatic "com/example/kittiwake/kittiwake/IntentFlag" "SINGLE_TOP" "Lcom/example/kittiwake/kittiwake/IntentFlag;").before a0 Z = true := hw _ (List.mem_of_getElem? (i := 32) rfl)
theorem own_w33 {a0 : Array Value} {Z : State} (hw : ∀ d ∈ tables_1, d.before a0 Z = true) : (Jvm.Cond.fieldLink "com/example/kittiwake/kittiwake/IntentFlagIsSetInPinLaw" 43 "com/example/kittiwake/kittiwake/IntentFlag" "RESET_TASK_IF_NEEDED" "Lcom/example/kittiwake/kittiwake/IntentFlag;").before a0 Z = true := hw _ (List.mem_of_getElem? (i := 33) rfl)
theorem own_w34 {a0 : Array Value} {Z : State} (hw : ∀ d ∈ tables_1, d.before a0 Z = true) : (Jvm.Cond.laysStatic "com/example/kittiwake/kittiwake/IntentFlag" "RESET_TASK_IF_NEEDED" "Lcom/example/kittiwake/kittiwake/IntentFlag;").before a0 Z = true := hw _ (List.mem_of_getElem? (i := 34) rfl)
theorem own_w35 {a0 : Array Value} {Z : State} (hw : ∀ d ∈ tables_1, d.before a0 Z = true) : (Jvm.Cond.fieldLink "com/example/kittiwake/kittiwake/IntentFlagIsSetInPinLaw" 19 "com/example/kittiwake/kittiwake/IntentFlag" "MULTIPLE_TASK" "Lcom/example/kittiwake/kittiwake/IntentFlag;").before a0 Z = true := hw _ (List.mem_of_getElem? (i := 35) rfl)
theorem own_w36 {a0 : Array Value} {Z : State} (hw : ∀ d ∈ tables_1, d.before a0 Z = true) : (Jvm.Cond.laysStatic "com/example/kittiwake/kittiwake/IntentFlag" "MULTIPLE_TASK" "Lcom/example/kittiwake/kittiwake/IntentFlag;").before a0 Z = true := hw _ (List.mem_of_getElem? (i := 36) rfl)
theorem own_w37 {a0 : Array Value} {Z : State} (hw : ∀ d ∈ tables_1, d.before a0 Z = true) : (Jvm.Cond.fieldLink "com/example/kittiwake/kittiwake/IntentFlagIsSetInPinLaw" 37 "com/example/kittiwake/kittiwake/IntentFlag" "NO_HISTORY" "Lcom/example/kittiwake/kittiwake/IntentFlag;").before a0 Z = true := hw _ (List.mem_of_getElem? (i := 37) rfl)
theorem own_w38 {a0 : Array Value} {Z : State} (hw : ∀ d ∈ tables_1, d.before a0 Z = true) : (Jvm.Cond.laysStatic "com/example/kittiwake/kittiwake/IntentFlag" "NO_HISTORY" "Lcom/example/kittiwake/kittiwake/IntentFlag;").before a0 Z = true := hw _ (List.mem_of_getElem? (i := 38) rfl)
theorem own_w39 {a0 : Array Value} {Z : State} (hw : ∀ d ∈ tables_1, d.before a0 Z = true) : (Jvm.Cond.fieldLink "com/example/kittiwake/kittiwake/IntentFlagIsSetInPinLaw" 31 "com/example/kittiwake/kittiwake/IntentFlag" "PREVIOUS_IS_TOP" "Lcom/example/kittiwake/kittiwake/IntentFlag;").before a0 Z = true := hw _ (List.mem_of_getElem? (i := 39) rfl)
theorem own_w40 {a0 : Array Value} {Z : State} (hw : ∀ d ∈ tables_1, d.before a0 Z = true) : (Jvm.Cond.laysStatic "com/example/kittiwake/kittiwake/IntentFlag" "PREVIOUS_IS_TOP" "Lcom/example/kittiwake/kittiwake/IntentFlag;").before a0 Z = true := hw _ (List.mem_of_getElem? (i := 40) rfl)
theorem own_w41 {a0 : Array Value} {Z : State} (hw : ∀ d ∈ tables_1, d.before a0 Z = true) : (Jvm.Cond.fieldLink "com/example/kittiwake/kittiwake/IntentFlagIsSetInPinLaw" 40 "com/example/kittiwake/kittiwake/IntentFlag" "NO_USER_ACTION" "Lcom/example/kittiwake/kittiwake/IntentFlag;").before a0 Z = true := hw _ (List.mem_of_getElem? (i := 41) rfl)
theorem own_w42 {a0 : Array Value} {Z : State} (hw : ∀ d ∈ tables_1, d.before a0 Z = true) : (Jvm.Cond.laysStatic "com/example/kittiwake/kittiwake/IntentFlag" "NO_USER_ACTION" "Lcom/example/kittiwake/kittiwake/IntentFlag;").before a0 Z = true := hw _ (List.mem_of_getElem? (i := 42) rfl)
theorem own_w43 {a0 : Array Value} {Z : State} (hw : ∀ d ∈ tables_1, d.before a0 Z = true) : (Jvm.Cond.fieldLink "com/example/kittiwake/kittiwake/IntentFlagIsSetInPinLaw" 25 "com/example/kittiwake/kittiwake/IntentFlag" "CLEAR_TOP" "Lcom/example/kittiwake/kittiwake/IntentFlag;").before a0 Z = true := hw _ (List.mem_of_getElem? (i := 43) rfl)
theorem own_w44 {a0 : Array Value} {Z : State} (hw : ∀ d ∈ tables_1, d.before a0 Z = true) : (Jvm.Cond.laysStatic "com/example/kittiwake/kittiwake/IntentFlag" "CLEAR_TOP" "Lcom/example/kittiwake/kittiwake/IntentFlag;").before a0 Z = true := hw _ (List.mem_of_getElem? (i := 44) rfl)
def own_W (Z : State) (h : Heap) (A : Nat → Addr) : Prop :=
  Sta Z h "com/example/kittiwake/kittiwake/IntentFlag" "NEW_TASK" "Lcom/example/kittiwake/kittiwake/IntentFlag;" (.ref (A 0)) ∧
  Exa Z h (A 0) "com/example/kittiwake/kittiwake/IntentFlag" ∧
  Sta Z h "com/example/kittiwake/kittiwake/IntentFlag" "CLEAR_TASK" "Lcom/example/kittiwake/kittiwake/IntentFlag;" (.ref (A 1)) ∧
  Exa Z h (A 1) "com/example/kittiwake/kittiwake/IntentFlag" ∧
  Sta Z h "com/example/kittiwake/kittiwake/IntentFlag" "REORDER_TO_FRONT" "Lcom/example/kittiwake/kittiwake/IntentFlag;" (.ref (A 2)) ∧
  Exa Z h (A 2) "com/example/kittiwake/kittiwake/IntentFlag" ∧
  Sta Z h "com/example/kittiwake/kittiwake/IntentFlag" "NEW_DOCUMENT" "Lcom/example/kittiwake/kittiwake/IntentFlag;" (.ref (A 3)) ∧
  Exa Z h (A 3) "com/example/kittiwake/kittiwake/IntentFlag" ∧
  Sta Z h "com/example/kittiwake/kittiwake/IntentFlag" "TASK_ON_HOME" "Lcom/example/kittiwake/kittiwake/IntentFlag;" (.ref (A 4)) ∧
  Exa Z h (A 4) "com/example/kittiwake/kittiwake/IntentFlag" ∧
  Sta Z h "com/example/kittiwake/kittiwake/IntentFlag" "SINGLE_TOP" "Lcom/example/kittiwake/kittiwake/IntentFlag;" (.ref (A 5)) ∧
  Exa Z h (A 5) "com/example/kittiwake/kittiwake/IntentFlag" ∧
  Sta Z h "com/example/kittiwake/kittiwake/IntentFlag" "RESET_TASK_IF_NEEDED" "Lcom/example/kittiwake/kittiwake/IntentFlag;" (.ref (A 6)) ∧
  Exa Z h (A 6) "com/example/kittiwake/kittiwake/IntentFlag" ∧
  Sta Z h "com/example/kittiwake/kittiwake/IntentFlag" "MULTIPLE_TASK" "Lcom/example/kittiwake/kittiwake/IntentFlag;" (.ref (A 7)) ∧
  Exa Z h (A 7) "com/example/kittiwake/kittiwake/IntentFlag" ∧
  Sta Z h "com/example/kittiwake/kittiwake/IntentFlag" "NO_HISTORY" "Lcom/example/kittiwake/kittiwake/IntentFlag;" (.ref (A 8)) ∧
  Exa Z h (A 8) "com/example/kittiwake/kittiwake/IntentFlag" ∧
  Sta Z h "com/example/kittiwake/kittiwake/IntentFlag" "PREVIOUS_IS_TOP" "Lcom/example/kittiwake/kittiwake/IntentFlag;" (.ref (A 9)) ∧
  Exa Z h (A 9) "com/example/kittiwake/kittiwake/IntentFlag" ∧
  Sta Z h "com/example/kittiwake/kittiwake/IntentFlag" "NO_USER_ACTION" "Lcom/example/kittiwake/kittiwake/IntentFlag;" (.ref (A 10)) ∧
  Exa Z h (A 10) "com/example/kittiwake/kittiwake/IntentFlag" ∧
  Sta Z h "com/example/kittiwake/kittiwake/IntentFlag" "CLEAR_TOP" "Lcom/example/kittiwake/kittiwake/IntentFlag;" (.ref (A 11)) ∧
  Exa Z h (A 11) "com/example/kittiwake/kittiwake/IntentFlag" ∧
  Fld Z h (A 0) "com/example/kittiwake/kittiwake/IntentFlag" "value" "I" (.int (268435456 : Int32)) ∧
  Fld Z h (A 1) "com/example/kittiwake/kittiwake/IntentFlag" "value" "I" (.int (32768 : Int32)) ∧
  Fld Z h (A 2) "com/example/kittiwake/kittiwake/IntentFlag" "value" "I" (.int (131072 : Int32)) ∧
  Fld Z h (A 3) "com/example/kittiwake/kittiwake/IntentFlag" "value" "I" (.int (524288 : Int32)) ∧
  Fld Z h (A 4) "com/example/kittiwake/kittiwake/IntentFlag" "value" "I" (.int (16384 : Int32)) ∧
  Fld Z h (A 5) "com/example/kittiwake/kittiwake/IntentFlag" "value" "I" (.int (536870912 : Int32)) ∧
  Fld Z h (A 6) "com/example/kittiwake/kittiwake/IntentFlag" "value" "I" (.int (2097152 : Int32)) ∧
  Fld Z h (A 7) "com/example/kittiwake/kittiwake/IntentFlag" "value" "I" (.int (134217728 : Int32)) ∧
  Fld Z h (A 8) "com/example/kittiwake/kittiwake/IntentFlag" "value" "I" (.int (1073741824 : Int32)) ∧
  Fld Z h (A 9) "com/example/kittiwake/kittiwake/IntentFlag" "value" "I" (.int (16777216 : Int32)) ∧
  Fld Z h (A 10) "com/example/kittiwake/kittiwake/IntentFlag" "value" "I" (.int (262144 : Int32)) ∧
  Fld Z h (A 11) "com/example/kittiwake/kittiwake/IntentFlag" "value" "I" (.int (67108864 : Int32))
theorem own_f0 {Z : State} {h : Heap} {A : Nat → Addr} (W : own_W Z h A) : Sta Z h "com/example/kittiwake/kittiwake/IntentFlag" "NEW_TASK" "Lcom/example/kittiwake/kittiwake/IntentFlag;" (.ref (A 0)) := W.1
theorem own_f1 {Z : State} {h : Heap} {A : Nat → Addr} (W : own_W Z h A) : Exa Z h (A 0) "com/example/kittiwake/kittiwake/IntentFlag" := W.2.1
theorem own_f2 {Z : State} {h : Heap} {A : Nat → Addr} (W : own_W Z h A) : Sta Z h "com/example/kittiwake/kittiwake/IntentFlag" "CLEAR_TASK" "Lcom/example/kittiwake/kittiwake/IntentFlag;" (.ref (A 1)) := W.2.2.1
theorem own_f3 {Z : State} {h : Heap} {A : Nat → Addr} (W : own_W Z h A) : Exa Z h (A 1) "com/example/kittiwake/kittiwake/IntentFlag" := W.2.2.2.1
theorem own_f4 {Z : State} {h : Heap} {A : Nat → Addr} (W : own_W Z h A) : Sta Z h "com/example/kittiwake/kittiwake/IntentFlag" "REORDER_TO_FRONT" "Lcom/example/kittiwake/kittiwake/IntentFlag;" (.ref (A 2)) := W.2.2.2.2.1
theorem own_f5 {Z : State} {h : Heap} {A : Nat → Addr} (W : own_W Z h A) : Exa Z h (A 2) "com/example/kittiwake/kittiwake/IntentFlag" := W.2.2.2.2.2.1
theorem own_f6 {Z : State} {h : Heap} {A : Nat → Addr} (W : own_W Z h A) : Sta Z h "com/example/kittiwake/kittiwake/IntentFlag" "NEW_DOCUMENT" "Lcom/example/kittiwake/kittiwake/IntentFlag;" (.ref (A 3)) := W.2.2.2.2.2.2.1
theorem own_f7 {Z : State} {h : Heap} {A : Nat → Addr} (W : own_W Z h A) : Exa Z h (A 3) "com/example/kittiwake/kittiwake/IntentFlag" := W.2.2.2.2.2.2.2.1
theorem own_f8 {Z : State} {h : Heap} {A : Nat → Addr} (W : own_W Z h A) : Sta Z h "com/example/kittiwake/kittiwake/IntentFlag" "TASK_ON_HOME" "Lcom/example/kittiwake/kittiwake/IntentFlag;" (.ref (A 4)) := W.2.2.2.2.2.2.2.2.1
theorem own_f9 {Z : State} {h : Heap} {A : Nat → Addr} (W : own_W Z h A) : Exa Z h (A 4) "com/example/kittiwake/kittiwake/IntentFlag" := W.2.2.2.2.2.2.2.2.2.1
theorem own_f10 {Z : State} {h : Heap} {A : Nat → Addr} (W : own_W Z h A) : Sta Z h "com/example/kittiwake/kittiwake/IntentFlag" "SINGLE_TOP" "Lcom/example/kittiwake/kittiwake/IntentFlag;" (.ref (A 5)) := W.2.2.2.2.2.2.2.2.2.2.1
theorem own_f11 {Z : State} {h : Heap} {A : Nat → Addr} (W : own_W Z h A) : Exa Z h (A 5) "com/example/kittiwake/kittiwake/IntentFlag" := W.2.2.2.2.2.2.2.2.2.2.2.1
theorem own_f12 {Z : State} {h : Heap} {A : Nat → Addr} (W : own_W Z h A) : Sta Z h "com/example/kittiwake/kittiwake/IntentFlag" "RESET_TASK_IF_NEEDED" "Lcom/example/kittiwake/kittiwake/IntentFlag;" (.ref (A 6)) := W.2.2.2.2.2.2.2.2.2.2.2.2.1
theorem own_f13 {Z : State} {h : Heap} {A : Nat → Addr} (W : own_W Z h A) : Exa Z h (A 6) "com/example/kittiwake/kittiwake/IntentFlag" := W.2.2.2.2.2.2.2.2.2.2.2.2.2.1
theorem own_f14 {Z : State} {h : Heap} {A : Nat → Addr} (W : own_W Z h A) : Sta Z h "com/example/kittiwake/kittiwake/IntentFlag" "MULTIPLE_TASK" "Lcom/example/kittiwake/kittiwake/IntentFlag;" (.ref (A 7)) := W.2.2.2.2.2.2.2.2.2.2.2.2.2.2.1
theorem own_f15 {Z : State} {h : Heap} {A : Nat → Addr} (W : own_W Z h A) : Exa Z h (A 7) "com/example/kittiwake/kittiwake/IntentFlag" := W.2.2.2.2.2.2.2.2.2.2.2.2.2.2.2.1
theorem own_f16 {Z : State} {h : Heap} {A : Nat → Addr} (W : own_W Z h A) : Sta Z h "com/example/kittiwake/kittiwake/IntentFlag" "NO_HISTORY" "Lcom/example/kittiwake/kittiwake/IntentFlag;" (.ref (A 8)) := W.2.2.2.2.2.2.2.2.2.2.2.2.2.2.2.2.1
theorem own_f17 {Z : State} {h : Heap} {A : Nat → Addr} (W : own_W Z h A) : Exa Z h (A 8) "com/example/kittiwake/kittiwake/IntentFlag" := W.2.2.2.2.2.2.2.2.2.2.2.2.2.2.2.2.2.1
theorem own_f18 {Z : State} {h : Heap} {A : Nat → Addr} (W : own_W Z h A) : Sta Z h "com/example/kittiwake/kittiwake/IntentFlag" "PREVIOUS_IS_TOP" "Lcom/example/kittiwake/kittiwake/IntentFlag;" (.ref (A 9)) := W.2.2.2.2.2.2.2.2.2.2.2.2.2.2.2.2.2.2.1
theorem own_f19 {Z : State} {h : Heap} {A : Nat → Addr} (W : own_W Z h A) : Exa Z h (A 9) "com/example/kittiwake/kittiwake/IntentFlag" := W.2.2.2.2.2.2.2.2.2.2.2.2.2.2.2.2.2.2.2.1
theorem own_f20 {Z : State} {h : Heap} {A : Nat → Addr} (W : own_W Z h A) : Sta Z h "com/example/kittiwake/kittiwake/IntentFlag" "NO_USER_ACTION" "Lcom/example/kittiwake/kittiwake/IntentFlag;" (.ref (A 10)) := W.2.2.2.2.2.2.2.2.2.2.2.2.2.2.2.2.2.2.2.2.1
theorem own_f21 {Z : State} {h : Heap} {A : Nat → Addr} (W : own_W Z h A) : Exa Z h (A 10) "com/example/kittiwake/kittiwake/IntentFlag" := W.2.2.2.2.2.2.2.2.2.2.2.2.2.2.2.2.2.2.2.2.2.1
theorem own_f22 {Z : State} {h : Heap} {A : Nat → Addr} (W : own_W Z h A) : Sta Z h "com/example/kittiwake/kittiwake/IntentFlag" "CLEAR_TOP" "Lcom/example/kittiwake/kittiwake/IntentFlag;" (.ref (A 11)) := W.2.2.2.2.2.2.2.2.2.2.2.2.2.2.2.2.2.2.2.2.2.2.1
theorem own_f23 {Z : State} {h : Heap} {A : Nat → Addr} (W : own_W Z h A) : Exa Z h (A 11) "com/example/kittiwake/kittiwake/IntentFlag" := W.2.2.2.2.2.2.2.2.2.2.2.2.2.2.2.2.2.2.2.2.2.2.2.1
theorem own_f24 {Z : State} {h : Heap} {A : Nat → Addr} (W : own_W Z h A) : Fld Z h (A 0) "com/example/kittiwake/kittiwake/IntentFlag" "value" "I" (.int (268435456 : Int32)) := W.2.2.2.2.2.2.2.2.2.2.2.2.2.2.2.2.2.2.2.2.2.2.2.2.1
theorem own_f25 {Z : State} {h : Heap} {A : Nat → Addr} (W : own_W Z h A) : Fld Z h (A 1) "com/example/kittiwake/kittiwake/IntentFlag" "value" "I" (.int (32768 : Int32)) := W.2.2.2.2.2.2.2.2.2.2.2.2.2.2.2.2.2.2.2.2.2.2.2.2.2.1
theorem own_f26 {Z : State} {h : Heap} {A : Nat → Addr} (W : own_W Z h A) : Fld Z h (A 2) "com/example/kittiwake/kittiwake/IntentFlag" "value" "I" (.int (131072 : Int32)) := W.2.2.2.2.2.2.2.2.2.2.2.2.2.2.2.2.2.2.2.2.2.2.2.2.2.2.1
theorem own_f27 {Z : State} {h : Heap} {A : Nat → Addr} (W : own_W Z h A) : Fld Z h (A 3) "com/example/kittiwake/kittiwake/IntentFlag" "value" "I" (.int (524288 : Int32)) := W.2.2.2.2.2.2.2.2.2.2.2.2.2.2.2.2.2.2.2.2.2.2.2.2.2.2.2.1
theorem own_f28 {Z : State} {h : Heap} {A : Nat → Addr} (W : own_W Z h A) : Fld Z h (A 4) "com/example/kittiwake/kittiwake/IntentFlag" "value" "I" (.int (16384 : Int32)) := W.2.2.2.2.2.2.2.2.2.2.2.2.2.2.2.2.2.2.2.2.2.2.2.2.2.2.2.2.1
theorem own_f29 {Z : State} {h : Heap} {A : Nat → Addr} (W : own_W Z h A) : Fld Z h (A 5) "com/example/kittiwake/kittiwake/IntentFlag" "value" "I" (.int (536870912 : Int32)) := W.2.2.2.2.2.2.2.2.2.2.2.2.2.2.2.2.2.2.2.2.2.2.2.2.2.2.2.2.2.1
theorem own_f30 {Z : State} {h : Heap} {A : Nat → Addr} (W : own_W Z h A) : Fld Z h (A 6) "com/example/kittiwake/kittiwake/IntentFlag" "value" "I" (.int (2097152 : Int32)) := W.2.2.2.2.2.2.2.2.2.2.2.2.2.2.2.2.2.2.2.2.2.2.2.2.2.2.2.2.2.2.1
theorem own_f31 {Z : State} {h : Heap} {A : Nat → Addr} (W : own_W Z h A) : Fld Z h (A 7) "com/example/kittiwake/kittiwake/IntentFlag" "value" "I" (.int (134217728 : Int32)) := W.2.2.2.2.2.2.2.2.2.2.2.2.2.2.2.2.2.2.2.2.2.2.2.2.2.2.2.2.2.2.2.1
theorem own_f32 {Z : State} {h : Heap} {A : Nat → Addr} (W : own_W Z h A) : Fld Z h (A 8) "com/example/kittiwake/kittiwake/IntentFlag" "value" "I" (.int (1073741824 : Int32)) := W.2.2.2.2.2.2.2.2.2.2.2.2.2.2.2.2.2.2.2.2.2.2.2.2.2.2.2.2.2.2.2.2.1
theorem own_f33 {Z : State} {h : Heap} {A : Nat → Addr} (W : own_W Z h A) : Fld Z h (A 9) "com/example/kittiwake/kittiwake/IntentFlag" "value" "I" (.int (16777216 : Int32)) := W.2.2.2.2.2.2.2.2.2.2.2.2.2.2.2.2.2.2.2.2.2.2.2.2.2.2.2.2.2.2.2.2.2.1
theorem own_f34 {Z : State} {h : Heap} {A : Nat → Addr} (W : own_W Z h A) : Fld Z h (A 10) "com/example/kittiwake/kittiwake/IntentFlag" "value" "I" (.int (262144 : Int32)) := W.2.2.2.2.2.2.2.2.2.2.2.2.2.2.2.2.2.2.2.2.2.2.2.2.2.2.2.2.2.2.2.2.2.2.1
theorem own_f35 {Z : State} {h : Heap} {A : Nat → Addr} (W : own_W Z h A) : Fld Z h (A 11) "com/example/kittiwake/kittiwake/IntentFlag" "value" "I" (.int (67108864 : Int32)) := W.2.2.2.2.2.2.2.2.2.2.2.2.2.2.2.2.2.2.2.2.2.2.2.2.2.2.2.2.2.2.2.2.2.2.2
theorem own_Wext {Z : State} {h h' : Heap} {A : Nat → Addr} (W : own_W Z h A) (E : Ext h h') : own_W Z h' A := ⟨(own_f0 W).ext E, (own_f1 W).ext E, (own_f2 W).ext E, (own_f3 W).ext E, (own_f4 W).ext E, (own_f5 W).ext E, (own_f6 W).ext E, (own_f7 W).ext E, (own_f8 W).ext E, (own_f9 W).ext E, (own_f10 W).ext E, (own_f11 W).ext E, (own_f12 W).ext E, (own_f13 W).ext E, (own_f14 W).ext E, (own_f15 W).ext E, (own_f16 W).ext E, (own_f17 W).ext E, (own_f18 W).ext E, (own_f19 W).ext E, (own_f20 W).ext E, (own_f21 W).ext E, (own_f22 W).ext E, (own_f23 W).ext E, (own_f24 W).ext E, (own_f25 W).ext E, (own_f26 W).ext E, (own_f27 W).ext E, (own_f28 W).ext E, (own_f29 W).ext E, (own_f30 W).ext E, (own_f31 W).ext E, (own_f32 W).ext E, (own_f33 W).ext E, (own_f34 W).ext E, (own_f35 W).ext E⟩
theorem own_world {s : State} {args : Array Value} (hw : ∀ d ∈ tables_1, d.before args s = true) (hn : narrow_1.value args s none s [] = some true) : ∃ A : Nat → Addr, own_W s s.heap A := by
  obtain ⟨n0, r0⟩ := and_e hn
  obtain ⟨n1, r1⟩ := and_e r0
  obtain ⟨n2, r2⟩ := and_e r1
  obtain ⟨n3, r3⟩ := and_e r2
  obtain ⟨n4, r4⟩ := and_e r3
  obtain ⟨n5, r5⟩ := and_e r4
  obtain ⟨n6, r6⟩ := and_e r5
  obtain ⟨n7, r7⟩ := and_e r6
  obtain ⟨n8, r8⟩ := and_e r7
  obtain ⟨n9, r9⟩ := and_e r8
  obtain ⟨n10, r10⟩ := and_e r9
  obtain ⟨n11, r11⟩ := and_e r10
  obtain ⟨n12, r12⟩ := and_e r11
  obtain ⟨n13, r13⟩ := and_e r12
  obtain ⟨n14, r14⟩ := and_e r13
  obtain ⟨n15, r15⟩ := and_e r14
  obtain ⟨n16, r16⟩ := and_e r15
  obtain ⟨n17, r17⟩ := and_e r16
  obtain ⟨n18, r18⟩ := and_e r17
  obtain ⟨n19, r19⟩ := and_e r18
  obtain ⟨n20, r20⟩ := and_e r19
  obtain ⟨n21, r21⟩ := and_e r20
  obtain ⟨n22, r22⟩ := and_e r21
  obtain ⟨a0, v0⟩ := exa_v n0
  obtain ⟨a1, v1⟩ := exa_v n2
  obtain ⟨a2, v2⟩ := exa_v n4
  obtain ⟨a3, v3⟩ := exa_v n6
  obtain ⟨a4, v4⟩ := exa_v n8
  obtain ⟨a5, v5⟩ := exa_v n10
  obtain ⟨a6, v6⟩ := exa_v n12
  obtain ⟨a7, v7⟩ := exa_v n14
  obtain ⟨a8, v8⟩ := exa_v n16
  obtain ⟨a9, v9⟩ := exa_v n18
  obtain ⟨a10, v10⟩ := exa_v n20
  obtain ⟨a11, v11⟩ := exa_v n22
  exact ⟨fun n => [a0, a1, a2, a3, a4, a5, a6, a7, a8, a9, a10, a11].getD n 0, Sta.start v0 (Or.inr ⟨(own_w6 hw), (own_w7 hw)⟩), Exa.start v0 n0, Sta.start v1 (Or.inr ⟨(own_w6 hw), (own_w24 hw)⟩), Exa.start v1 n2, Sta.start v2 (Or.inr ⟨(own_w6 hw), (own_w26 hw)⟩), Exa.start v2 n4, Sta.start v3 (Or.inr ⟨(own_w6 hw), (own_w28 hw)⟩), Exa.start v3 n6, Sta.start v4 (Or.inr ⟨(own_w6 hw), (own_w30 hw)⟩), Exa.start v4 n8, Sta.start v5 (Or.inr ⟨(own_w6 hw), (own_w32 hw)⟩), Exa.start v5 n10, Sta.start v6 (Or.inr ⟨(own_w6 hw), (own_w34 hw)⟩), Exa.start v6 n12, Sta.start v7 (Or.inr ⟨(own_w6 hw), (own_w36 hw)⟩), Exa.start v7 n14, Sta.start v8 (Or.inr ⟨(own_w6 hw), (own_w38 hw)⟩), Exa.start v8 n16, Sta.start v9 (Or.inr ⟨(own_w6 hw), (own_w40 hw)⟩), Exa.start v9 n18, Sta.start v10 (Or.inr ⟨(own_w6 hw), (own_w42 hw)⟩), Exa.start v10 n20, Sta.start v11 (Or.inr ⟨(own_w6 hw), (own_w44 hw)⟩), Exa.start v11 n22, own_fld v0 (own_eqI n1), own_fld v1 (own_eqI n3), own_fld v2 (own_eqI n5), own_fld v3 (own_eqI n7), own_fld v4 (own_eqI n9), own_fld v5 (own_eqI n11), own_fld v6 (own_eqI n13), own_fld v7 (own_eqI n15), own_fld v8 (own_eqI n17), own_fld v9 (own_eqI n19), own_fld v10 (own_eqI n21), own_fld v11 (own_eqI r22)⟩
theorem own_d1_0 : decode method_2_code 0 = .ok (.iload_n 0, 1) := by decide +kernel
theorem own_d1_1 : decode method_2_code 1 = .ok (.ifCond .ne 7, 3) := by decide +kernel
theorem own_d1_4 : decode method_2_code 4 = .ok (.getstatic 7, 3) := by decide +kernel
theorem own_d1_7 : decode method_2_code 7 = .ok (.areturn, 1) := by decide +kernel
theorem own_d1_8 : decode method_2_code 8 = .ok (.iload_n 0, 1) := by decide +kernel
theorem own_d1_9 : decode method_2_code 9 = .ok (.iconst 1, 1) := by decide +kernel
theorem own_d1_10 : decode method_2_code 10 = .ok (.if_icmp .ne 7, 3) := by decide +kernel
theorem own_d1_13 : decode method_2_code 13 = .ok (.getstatic 13, 3) := by decide +kernel
theorem own_d1_16 : decode method_2_code 16 = .ok (.areturn, 1) := by decide +kernel
theorem own_d1_17 : decode method_2_code 17 = .ok (.iload_n 0, 1) := by decide +kernel
theorem own_d1_18 : decode method_2_code 18 = .ok (.iconst 2, 1) := by decide +kernel
theorem own_d1_19 : decode method_2_code 19 = .ok (.if_icmp .ne 7, 3) := by decide +kernel
theorem own_d1_22 : decode method_2_code 22 = .ok (.getstatic 16, 3) := by decide +kernel
theorem own_d1_25 : decode method_2_code 25 = .ok (.areturn, 1) := by decide +kernel
theorem own_d1_26 : decode method_2_code 26 = .ok (.iload_n 0, 1) := by decide +kernel
theorem own_d1_27 : decode method_2_code 27 = .ok (.iconst 3, 1) := by decide +kernel
theorem own_d1_28 : decode method_2_code 28 = .ok (.if_icmp .ne 7, 3) := by decide +kernel
theorem own_d1_31 : decode method_2_code 31 = .ok (.getstatic 19, 3) := by decide +kernel
theorem own_d1_34 : decode method_2_code 34 = .ok (.areturn, 1) := by decide +kernel
theorem own_d1_35 : decode method_2_code 35 = .ok (.iload_n 0, 1) := by decide +kernel
theorem own_d1_36 : decode method_2_code 36 = .ok (.iconst 4, 1) := by decide +kernel
theorem own_d1_37 : decode method_2_code 37 = .ok (.if_icmp .ne 7, 3) := by decide +kernel
theorem own_d1_40 : decode method_2_code 40 = .ok (.getstatic 22, 3) := by decide +kernel
theorem own_d1_43 : decode method_2_code 43 = .ok (.areturn, 1) := by decide +kernel
theorem own_d1_44 : decode method_2_code 44 = .ok (.iload_n 0, 1) := by decide +kernel
theorem own_d1_45 : decode method_2_code 45 = .ok (.iconst 5, 1) := by decide +kernel
theorem own_d1_46 : decode method_2_code 46 = .ok (.if_icmp .ne 7, 3) := by decide +kernel
theorem own_d1_49 : decode method_2_code 49 = .ok (.getstatic 25, 3) := by decide +kernel
theorem own_d1_52 : decode method_2_code 52 = .ok (.areturn, 1) := by decide +kernel
theorem own_d1_53 : decode method_2_code 53 = .ok (.iload_n 0, 1) := by decide +kernel
theorem own_d1_54 : decode method_2_code 54 = .ok (.bipush 6, 2) := by decide +kernel
theorem own_d1_56 : decode method_2_code 56 = .ok (.if_icmp .ne 7, 3) := by decide +kernel
theorem own_d1_59 : decode method_2_code 59 = .ok (.getstatic 28, 3) := by decide +kernel
theorem own_d1_62 : decode method_2_code 62 = .ok (.areturn, 1) := by decide +kernel
theorem own_d1_63 : decode method_2_code 63 = .ok (.iload_n 0, 1) := by decide +kernel
theorem own_d1_64 : decode method_2_code 64 = .ok (.bipush 7, 2) := by decide +kernel
theorem own_d1_66 : decode method_2_code 66 = .ok (.if_icmp .ne 7, 3) := by decide +kernel
theorem own_d1_69 : decode method_2_code 69 = .ok (.getstatic 31, 3) := by decide +kernel
theorem own_d1_72 : decode method_2_code 72 = .ok (.areturn, 1) := by decide +kernel
theorem own_d1_73 : decode method_2_code 73 = .ok (.iload_n 0, 1) := by decide +kernel
theorem own_d1_74 : decode method_2_code 74 = .ok (.bipush 8, 2) := by decide +kernel
theorem own_d1_76 : decode method_2_code 76 = .ok (.if_icmp .ne 7, 3) := by decide +kernel
theorem own_d1_79 : decode method_2_code 79 = .ok (.getstatic 34, 3) := by decide +kernel
theorem own_d1_82 : decode method_2_code 82 = .ok (.areturn, 1) := by decide +kernel
theorem own_d1_83 : decode method_2_code 83 = .ok (.iload_n 0, 1) := by decide +kernel
theorem own_d1_84 : decode method_2_code 84 = .ok (.bipush 9, 2) := by decide +kernel
theorem own_d1_86 : decode method_2_code 86 = .ok (.if_icmp .ne 7, 3) := by decide +kernel
theorem own_d1_89 : decode method_2_code 89 = .ok (.getstatic 37, 3) := by decide +kernel
theorem own_d1_92 : decode method_2_code 92 = .ok (.areturn, 1) := by decide +kernel
theorem own_d1_93 : decode method_2_code 93 = .ok (.iload_n 0, 1) := by decide +kernel
theorem own_d1_94 : decode method_2_code 94 = .ok (.bipush 10, 2) := by decide +kernel
theorem own_d1_96 : decode method_2_code 96 = .ok (.if_icmp .ne 7, 3) := by decide +kernel
theorem own_d1_99 : decode method_2_code 99 = .ok (.getstatic 40, 3) := by decide +kernel
theorem own_d1_102 : decode method_2_code 102 = .ok (.areturn, 1) := by decide +kernel
theorem own_d1_103 : decode method_2_code 103 = .ok (.getstatic 43, 3) := by decide +kernel
theorem own_d1_106 : decode method_2_code 106 = .ok (.areturn, 1) := by decide +kernel
def own_r_flagAt (A : Nat → Addr) (k : Int32) : Addr := if k = 0 then (A 0) else if k = (1 : Int32) then (A 4) else if k = (2 : Int32) then (A 1) else if k = (3 : Int32) then (A 7) else if k = (4 : Int32) then (A 3) else if k = (5 : Int32) then (A 11) else if k = (6 : Int32) then (A 5) else if k = (7 : Int32) then (A 9) else if k = (8 : Int32) then (A 2) else if k = (9 : Int32) then (A 8) else if k = (10 : Int32) then (A 10) else (A 6)
set_option maxRecDepth 65536 in
set_option maxHeartbeats 40000000 in
theorem rm_flagAt (l : Launch) {Z : State} {a0 : Array Value} (hw : ∀ d ∈ tables_1, d.before a0 Z = true) {A : Nat → Addr} {h0 : Heap} (W : own_W Z h0 A) (k : Int32)  :
    own_Does l Z (⟨"com/example/kittiwake/kittiwake/IntentFlagIsSetInPinLaw", "flagAt", "(I)Lcom/example/kittiwake/kittiwake/IntentFlag;"⟩ : MethodName) method_2_code 1 (some (.object "com/example/kittiwake/kittiwake/IntentFlag")) [] ({ frames := 0, cells := 0, slots := 0, locals := 0 } : Room) #[(.int k)] h0 (own_Is (.ref (own_r_flagAt A k)) h0) := by
  refine own_body own_pn0 ?_
  intro p e s m below meth c T0 hx hby hml hret hlk hnm hown hZ X0 e0
  refine own_tr (XT.entry (Ls := #[.val (.int k)]) rfl) ?_
  show own_Goes p e below _ (T0.setTop (mkF m 0 #[.val (.int k)] []))
  refine own_by (fun _ zz => XS.iloadN X0.here hx rfl (hb hby own_d1_0) rfl zz) ?_
  show own_Goes p e below _ (T0.setTop (mkF m 1 #[.val (.int k)] [(.int k)]))
  by_cases q1 : k = 0
  · refine own_by (fun _ zz => XS.ifNo X0.here hx rfl (hb hby own_d1_1) rfl (XT.i0_ne_f q1) zz) ?_
    show own_Goes p e below _ (T0.setTop (mkF m 4 #[.val (.int k)] []))
    refine own_getS X0 hx hZ hown (own_w5 hw) e0 (own_f0 W) (hb hby own_d1_4) fun T2 X2 e2 => ?_
    show own_Goes p e below _ (T2.setTop (mkF m 7 #[.val (.int k)] [(.ref (A 0))]))
    refine own_retR X2 hx hlk hret rfl rfl rfl (hb hby own_d1_7) (by decide) (by decide) ?_
    exact ⟨by unfold own_r_flagAt; rw [if_pos q1] <;> rfl, rfl, e2⟩
  · refine own_by (fun _ zz => XS.ifYes X0.here hx rfl (pc0 := 1) (pc' := 8) rfl (hb hby own_d1_1) rfl (XT.i0_ne_t q1) (by decide) (by decide) zz) ?_
    show own_Goes p e below _ (T0.setTop (mkF m 8 #[.val (.int k)] []))
    refine own_by (fun _ zz => XS.iloadN X0.here hx rfl (hb hby own_d1_8) rfl zz) ?_
    show own_Goes p e below _ (T0.setTop (mkF m 9 #[.val (.int k)] [(.int k)]))
    refine own_by (fun _ zz => XS.iconst X0.here hx rfl (hb hby own_d1_9) zz) ?_
    show own_Goes p e below _ (T0.setTop (mkF m 10 #[.val (.int k)] [(.int (1 : Int32)), (.int k)]))
    by_cases q3 : k = (1 : Int32)
    · refine own_by (fun _ zz => XS.icmpNo X0.here hx rfl (hb hby own_d1_10) rfl (XT.ii_ne_f q3) zz) ?_
      show own_Goes p e below _ (T0.setTop (mkF m 13 #[.val (.int k)] []))
      refine own_getS X0 hx hZ hown (own_w29 hw) e0 (own_f8 W) (hb hby own_d1_13) fun T4 X4 e4 => ?_
      show own_Goes p e below _ (T4.setTop (mkF m 16 #[.val (.int k)] [(.ref (A 4))]))
      refine own_retR X4 hx hlk hret rfl rfl rfl (hb hby own_d1_16) (by decide) (by decide) ?_
      exact ⟨by unfold own_r_flagAt; rw [if_neg q1, if_pos q3] <;> rfl, rfl, e4⟩
    · refine own_by (fun _ zz => XS.icmpYes X0.here hx rfl (pc0 := 10) (pc' := 17) rfl (hb hby own_d1_10) rfl (XT.ii_ne_t q3) (by decide) (by decide) zz) ?_
      show own_Goes p e below _ (T0.setTop (mkF m 17 #[.val (.int k)] []))
      refine own_by (fun _ zz => XS.iloadN X0.here hx rfl (hb hby own_d1_17) rfl zz) ?_
      show own_Goes p e below _ (T0.setTop (mkF m 18 #[.val (.int k)] [(.int k)]))
      refine own_by (fun _ zz => XS.iconst X0.here hx rfl (hb hby own_d1_18) zz) ?_
      show own_Goes p e below _ (T0.setTop (mkF m 19 #[.val (.int k)] [(.int (2 : Int32)), (.int k)]))
      by_cases q5 : k = (2 : Int32)
      · refine own_by (fun _ zz => XS.icmpNo X0.here hx rfl (hb hby own_d1_19) rfl (XT.ii_ne_f q5) zz) ?_
        show own_Goes p e below _ (T0.setTop (mkF m 22 #[.val (.int k)] []))
        refine own_getS X0 hx hZ hown (own_w23 hw) e0 (own_f2 W) (hb hby own_d1_22) fun T6 X6 e6 => ?_
        show own_Goes p e below _ (T6.setTop (mkF m 25 #[.val (.int k)] [(.ref (A 1))]))
        refine own_retR X6 hx hlk hret rfl rfl rfl (hb hby own_d1_25) (by decide) (by decide) ?_
        exact ⟨by unfold own_r_flagAt; rw [if_neg q1, if_neg q3, if_pos q5] <;> rfl, rfl, e6⟩
      · refine own_by (fun _ zz => XS.icmpYes X0.here hx rfl (pc0 := 19) (pc' := 26) rfl (hb hby own_d1_19) rfl (XT.ii_ne_t q5) (by decide) (by decide) zz) ?_
        show own_Goes p e below _ (T0.setTop (mkF m 26 #[.val (.int k)] []))
        refine own_by (fun _ zz => XS.iloadN X0.here hx rfl (hb hby own_d1_26) rfl zz) ?_
        show own_Goes p e below _ (T0.setTop (mkF m 27 #[.val (.int k)] [(.int k)]))
        refine own_by (fun _ zz => XS.iconst X0.here hx rfl (hb hby own_d1_27) zz) ?_
        show own_Goes p e below _ (T0.setTop (mkF m 28 #[.val (.int k)] [(.int (3 : Int32)), (.int k)]))
        by_cases q7 : k = (3 : Int32)
        · refine own_by (fun _ zz => XS.icmpNo X0.here hx rfl (hb hby own_d1_28) rfl (XT.ii_ne_f q7) zz) ?_
          show own_Goes p e below _ (T0.setTop (mkF m 31 #[.val (.int k)] []))
          refine own_getS X0 hx hZ hown (own_w35 hw) e0 (own_f14 W) (hb hby own_d1_31) fun T8 X8 e8 => ?_
          show own_Goes p e below _ (T8.setTop (mkF m 34 #[.val (.int k)] [(.ref (A 7))]))
          refine own_retR X8 hx hlk hret rfl rfl rfl (hb hby own_d1_34) (by decide) (by decide) ?_
          exact ⟨by unfold own_r_flagAt; rw [if_neg q1, if_neg q3, if_neg q5, if_pos q7] <;> rfl, rfl, e8⟩
        · refine own_by (fun _ zz => XS.icmpYes X0.here hx rfl (pc0 := 28) (pc' := 35) rfl (hb hby own_d1_28) rfl (XT.ii_ne_t q7) (by decide) (by decide) zz) ?_
          show own_Goes p e below _ (T0.setTop (mkF m 35 #[.val (.int k)] []))
          refine own_by (fun _ zz => XS.iloadN X0.here hx rfl (hb hby own_d1_35) rfl zz) ?_
          show own_Goes p e below _ (T0.setTop (mkF m 36 #[.val (.int k)] [(.int k)]))
          refine own_by (fun _ zz => XS.iconst X0.here hx rfl (hb hby own_d1_36) zz) ?_
          show own_Goes p e below _ (T0.setTop (mkF m 37 #[.val (.int k)] [(.int (4 : Int32)), (.int k)]))
          by_cases q9 : k = (4 : Int32)
          · refine own_by (fun _ zz => XS.icmpNo X0.here hx rfl (hb hby own_d1_37) rfl (XT.ii_ne_f q9) zz) ?_
            show own_Goes p e below _ (T0.setTop (mkF m 40 #[.val (.int k)] []))
            refine own_getS X0 hx hZ hown (own_w27 hw) e0 (own_f6 W) (hb hby own_d1_40) fun T10 X10 e10 => ?_
            show own_Goes p e below _ (T10.setTop (mkF m 43 #[.val (.int k)] [(.ref (A 3))]))
            refine own_retR X10 hx hlk hret rfl rfl rfl (hb hby own_d1_43) (by decide) (by decide) ?_
            exact ⟨by unfold own_r_flagAt; rw [if_neg q1, if_neg q3, if_neg q5, if_neg q7, if_pos q9] <;> rfl, rfl, e10⟩
          · refine own_by (fun _ zz => XS.icmpYes X0.here hx rfl (pc0 := 37) (pc' := 44) rfl (hb hby own_d1_37) rfl (XT.ii_ne_t q9) (by decide) (by decide) zz) ?_
            show own_Goes p e below _ (T0.setTop (mkF m 44 #[.val (.int k)] []))
            refine own_by (fun _ zz => XS.iloadN X0.here hx rfl (hb hby own_d1_44) rfl zz) ?_
            show own_Goes p e below _ (T0.setTop (mkF m 45 #[.val (.int k)] [(.int k)]))
            refine own_by (fun _ zz => XS.iconst X0.here hx rfl (hb hby own_d1_45) zz) ?_
            show own_Goes p e below _ (T0.setTop (mkF m 46 #[.val (.int k)] [(.int (5 : Int32)), (.int k)]))
            by_cases q11 : k = (5 : Int32)
            · refine own_by (fun _ zz => XS.icmpNo X0.here hx rfl (hb hby own_d1_46) rfl (XT.ii_ne_f q11) zz) ?_
              show own_Goes p e below _ (T0.setTop (mkF m 49 #[.val (.int k)] []))
              refine own_getS X0 hx hZ hown (own_w43 hw) e0 (own_f22 W) (hb hby own_d1_49) fun T12 X12 e12 => ?_
              show own_Goes p e below _ (T12.setTop (mkF m 52 #[.val (.int k)] [(.ref (A 11))]))
              refine own_retR X12 hx hlk hret rfl rfl rfl (hb hby own_d1_52) (by decide) (by decide) ?_
              exact ⟨by unfold own_r_flagAt; rw [if_neg q1, if_neg q3, if_neg q5, if_neg q7, if_neg q9, if_pos q11] <;> rfl, rfl, e12⟩
            · refine own_by (fun _ zz => XS.icmpYes X0.here hx rfl (pc0 := 46) (pc' := 53) rfl (hb hby own_d1_46) rfl (XT.ii_ne_t q11) (by decide) (by decide) zz) ?_
              show own_Goes p e below _ (T0.setTop (mkF m 53 #[.val (.int k)] []))
              refine own_by (fun _ zz => XS.iloadN X0.here hx rfl (hb hby own_d1_53) rfl zz) ?_
              show own_Goes p e below _ (T0.setTop (mkF m 54 #[.val (.int k)] [(.int k)]))
              refine own_by (fun _ zz => XS.bipush X0.here hx rfl (hb hby own_d1_54) zz) ?_
              show own_Goes p e below _ (T0.setTop (mkF m 56 #[.val (.int k)] [(.int (6 : Int32)), (.int k)]))
              by_cases q13 : k = (6 : Int32)
              · refine own_by (fun _ zz => XS.icmpNo X0.here hx rfl (hb hby own_d1_56) rfl (XT.ii_ne_f q13) zz) ?_
                show own_Goes p e below _ (T0.setTop (mkF m 59 #[.val (.int k)] []))
                refine own_getS X0 hx hZ hown (own_w31 hw) e0 (own_f10 W) (hb hby own_d1_59) fun T14 X14 e14 => ?_
                show own_Goes p e below _ (T14.setTop (mkF m 62 #[.val (.int k)] [(.ref (A 5))]))
                refine own_retR X14 hx hlk hret rfl rfl rfl (hb hby own_d1_62) (by decide) (by decide) ?_
                exact ⟨by unfold own_r_flagAt; rw [if_neg q1, if_neg q3, if_neg q5, if_neg q7, if_neg q9, if_neg q11, if_pos q13] <;> rfl, rfl, e14⟩
              · refine own_by (fun _ zz => XS.icmpYes X0.here hx rfl (pc0 := 56) (pc' := 63) rfl (hb hby own_d1_56) rfl (XT.ii_ne_t q13) (by decide) (by decide) zz) ?_
                show own_Goes p e below _ (T0.setTop (mkF m 63 #[.val (.int k)] []))
                refine own_by (fun _ zz => XS.iloadN X0.here hx rfl (hb hby own_d1_63) rfl zz) ?_
                show own_Goes p e below _ (T0.setTop (mkF m 64 #[.val (.int k)] [(.int k)]))
                refine own_by (fun _ zz => XS.bipush X0.here hx rfl (hb hby own_d1_64) zz) ?_
                show own_Goes p e below _ (T0.setTop (mkF m 66 #[.val (.int k)] [(.int (7 : Int32)), (.int k)]))
                by_cases q15 : k = (7 : Int32)
                · refine own_by (fun _ zz => XS.icmpNo X0.here hx rfl (hb hby own_d1_66) rfl (XT.ii_ne_f q15) zz) ?_
                  show own_Goes p e below _ (T0.setTop (mkF m 69 #[.val (.int k)] []))
                  refine own_getS X0 hx hZ hown (own_w39 hw) e0 (own_f18 W) (hb hby own_d1_69) fun T16 X16 e16 => ?_
                  show own_Goes p e below _ (T16.setTop (mkF m 72 #[.val (.int k)] [(.ref (A 9))]))
                  refine own_retR X16 hx hlk hret rfl rfl rfl (hb hby own_d1_72) (by decide) (by decide) ?_
                  exact ⟨by unfold own_r_flagAt; rw [if_neg q1, if_neg q3, if_neg q5, if_neg q7, if_neg q9, if_neg q11, if_neg q13, if_pos q15] <;> rfl, rfl, e16⟩
                · refine own_by (fun _ zz => XS.icmpYes X0.here hx rfl (pc0 := 66) (pc' := 73) rfl (hb hby own_d1_66) rfl (XT.ii_ne_t q15) (by decide) (by decide) zz) ?_
                  show own_Goes p e below _ (T0.setTop (mkF m 73 #[.val (.int k)] []))
                  refine own_by (fun _ zz => XS.iloadN X0.here hx rfl (hb hby own_d1_73) rfl zz) ?_
                  show own_Goes p e below _ (T0.setTop (mkF m 74 #[.val (.int k)] [(.int k)]))
                  refine own_by (fun _ zz => XS.bipush X0.here hx rfl (hb hby own_d1_74) zz) ?_
                  show own_Goes p e below _ (T0.setTop (mkF m 76 #[.val (.int k)] [(.int (8 : Int32)), (.int k)]))
                  by_cases q17 : k = (8 : Int32)
                  · refine own_by (fun _ zz => XS.icmpNo X0.here hx rfl (hb hby own_d1_76) rfl (XT.ii_ne_f q17) zz) ?_
                    show own_Goes p e below _ (T0.setTop (mkF m 79 #[.val (.int k)] []))
                    refine own_getS X0 hx hZ hown (own_w25 hw) e0 (own_f4 W) (hb hby own_d1_79) fun T18 X18 e18 => ?_
                    show own_Goes p e below _ (T18.setTop (mkF m 82 #[.val (.int k)] [(.ref (A 2))]))
                    refine own_retR X18 hx hlk hret rfl rfl rfl (hb hby own_d1_82) (by decide) (by decide) ?_
                    exact ⟨by unfold own_r_flagAt; rw [if_neg q1, if_neg q3, if_neg q5, if_neg q7, if_neg q9, if_neg q11, if_neg q13, if_neg q15, if_pos q17] <;> rfl, rfl, e18⟩
                  · refine own_by (fun _ zz => XS.icmpYes X0.here hx rfl (pc0 := 76) (pc' := 83) rfl (hb hby own_d1_76) rfl (XT.ii_ne_t q17) (by decide) (by decide) zz) ?_
                    show own_Goes p e below _ (T0.setTop (mkF m 83 #[.val (.int k)] []))
                    refine own_by (fun _ zz => XS.iloadN X0.here hx rfl (hb hby own_d1_83) rfl zz) ?_
                    show own_Goes p e below _ (T0.setTop (mkF m 84 #[.val (.int k)] [(.int k)]))
                    refine own_by (fun _ zz => XS.bipush X0.here hx rfl (hb hby own_d1_84) zz) ?_
                    show own_Goes p e below _ (T0.setTop (mkF m 86 #[.val (.int k)] [(.int (9 : Int32)), (.int k)]))
                    by_cases q19 : k = (9 : Int32)
                    · refine own_by (fun _ zz => XS.icmpNo X0.here hx rfl (hb hby own_d1_86) rfl (XT.ii_ne_f q19) zz) ?_
                      show own_Goes p e below _ (T0.setTop (mkF m 89 #[.val (.int k)] []))
                      refine own_getS X0 hx hZ hown (own_w37 hw) e0 (own_f16 W) (hb hby own_d1_89) fun T20 X20 e20 => ?_
                      show own_Goes p e below _ (T20.setTop (mkF m 92 #[.val (.int k)] [(.ref (A 8))]))
                      refine own_retR X20 hx hlk hret rfl rfl rfl (hb hby own_d1_92) (by decide) (by decide) ?_
                      exact ⟨by unfold own_r_flagAt; rw [if_neg q1, if_neg q3, if_neg q5, if_neg q7, if_neg q9, if_neg q11, if_neg q13, if_neg q15, if_neg q17, if_pos q19] <;> rfl, rfl, e20⟩
                    · refine own_by (fun _ zz => XS.icmpYes X0.here hx rfl (pc0 := 86) (pc' := 93) rfl (hb hby own_d1_86) rfl (XT.ii_ne_t q19) (by decide) (by decide) zz) ?_
                      show own_Goes p e below _ (T0.setTop (mkF m 93 #[.val (.int k)] []))
                      refine own_by (fun _ zz => XS.iloadN X0.here hx rfl (hb hby own_d1_93) rfl zz) ?_
                      show own_Goes p e below _ (T0.setTop (mkF m 94 #[.val (.int k)] [(.int k)]))
                      refine own_by (fun _ zz => XS.bipush X0.here hx rfl (hb hby own_d1_94) zz) ?_
                      show own_Goes p e below _ (T0.setTop (mkF m 96 #[.val (.int k)] [(.int (10 : Int32)), (.int k)]))
                      by_cases q21 : k = (10 : Int32)
                      · refine own_by (fun _ zz => XS.icmpNo X0.here hx rfl (hb hby own_d1_96) rfl (XT.ii_ne_f q21) zz) ?_
                        show own_Goes p e below _ (T0.setTop (mkF m 99 #[.val (.int k)] []))
                        refine own_getS X0 hx hZ hown (own_w41 hw) e0 (own_f20 W) (hb hby own_d1_99) fun T22 X22 e22 => ?_
                        show own_Goes p e below _ (T22.setTop (mkF m 102 #[.val (.int k)] [(.ref (A 10))]))
                        refine own_retR X22 hx hlk hret rfl rfl rfl (hb hby own_d1_102) (by decide) (by decide) ?_
                        exact ⟨by unfold own_r_flagAt; rw [if_neg q1, if_neg q3, if_neg q5, if_neg q7, if_neg q9, if_neg q11, if_neg q13, if_neg q15, if_neg q17, if_neg q19, if_pos q21] <;> rfl, rfl, e22⟩
                      · refine own_by (fun _ zz => XS.icmpYes X0.here hx rfl (pc0 := 96) (pc' := 103) rfl (hb hby own_d1_96) rfl (XT.ii_ne_t q21) (by decide) (by decide) zz) ?_
                        show own_Goes p e below _ (T0.setTop (mkF m 103 #[.val (.int k)] []))
                        refine own_getS X0 hx hZ hown (own_w33 hw) e0 (own_f12 W) (hb hby own_d1_103) fun T23 X23 e23 => ?_
                        show own_Goes p e below _ (T23.setTop (mkF m 106 #[.val (.int k)] [(.ref (A 6))]))
                        refine own_retR X23 hx hlk hret rfl rfl rfl (hb hby own_d1_106) (by decide) (by decide) ?_
                        exact ⟨by unfold own_r_flagAt; rw [if_neg q1, if_neg q3, if_neg q5, if_neg q7, if_neg q9, if_neg q11, if_neg q13, if_neg q15, if_neg q17, if_neg q19, if_neg q21] <;> rfl, rfl, e23⟩
theorem own_d2_0 : decode method_3_code 0 = .ok (.iload_n 0, 1) := by decide +kernel
theorem own_d2_1 : decode method_3_code 1 = .ok (.ifCond .ne 6, 3) := by decide +kernel
theorem own_d2_4 : decode method_3_code 4 = .ok (.bipush 28, 2) := by decide +kernel
theorem own_d2_6 : decode method_3_code 6 = .ok (.ireturn, 1) := by decide +kernel
theorem own_d2_7 : decode method_3_code 7 = .ok (.iload_n 0, 1) := by decide +kernel
theorem own_d2_8 : decode method_3_code 8 = .ok (.iconst 1, 1) := by decide +kernel
theorem own_d2_9 : decode method_3_code 9 = .ok (.if_icmp .ne 6, 3) := by decide +kernel
theorem own_d2_12 : decode method_3_code 12 = .ok (.bipush 14, 2) := by decide +kernel
theorem own_d2_14 : decode method_3_code 14 = .ok (.ireturn, 1) := by decide +kernel
theorem own_d2_15 : decode method_3_code 15 = .ok (.iload_n 0, 1) := by decide +kernel
theorem own_d2_16 : decode method_3_code 16 = .ok (.iconst 2, 1) := by decide +kernel
theorem own_d2_17 : decode method_3_code 17 = .ok (.if_icmp .ne 6, 3) := by decide +kernel
theorem own_d2_20 : decode method_3_code 20 = .ok (.bipush 15, 2) := by decide +kernel
theorem own_d2_22 : decode method_3_code 22 = .ok (.ireturn, 1) := by decide +kernel
theorem own_d2_23 : decode method_3_code 23 = .ok (.iload_n 0, 1) := by decide +kernel
theorem own_d2_24 : decode method_3_code 24 = .ok (.iconst 3, 1) := by decide +kernel
theorem own_d2_25 : decode method_3_code 25 = .ok (.if_icmp .ne 6, 3) := by decide +kernel
theorem own_d2_28 : decode method_3_code 28 = .ok (.bipush 27, 2) := by decide +kernel
theorem own_d2_30 : decode method_3_code 30 = .ok (.ireturn, 1) := by decide +kernel
theorem own_d2_31 : decode method_3_code 31 = .ok (.iload_n 0, 1) := by decide +kernel
theorem own_d2_32 : decode method_3_code 32 = .ok (.iconst 4, 1) := by decide +kernel
theorem own_d2_33 : decode method_3_code 33 = .ok (.if_icmp .ne 6, 3) := by decide +kernel
theorem own_d2_36 : decode method_3_code 36 = .ok (.bipush 19, 2) := by decide +kernel
theorem own_d2_38 : decode method_3_code 38 = .ok (.ireturn, 1) := by decide +kernel
theorem own_d2_39 : decode method_3_code 39 = .ok (.iload_n 0, 1) := by decide +kernel
theorem own_d2_40 : decode method_3_code 40 = .ok (.iconst 5, 1) := by decide +kernel
theorem own_d2_41 : decode method_3_code 41 = .ok (.if_icmp .ne 6, 3) := by decide +kernel
theorem own_d2_44 : decode method_3_code 44 = .ok (.bipush 26, 2) := by decide +kernel
theorem own_d2_46 : decode method_3_code 46 = .ok (.ireturn, 1) := by decide +kernel
theorem own_d2_47 : decode method_3_code 47 = .ok (.iload_n 0, 1) := by decide +kernel
theorem own_d2_48 : decode method_3_code 48 = .ok (.bipush 6, 2) := by decide +kernel
theorem own_d2_50 : decode method_3_code 50 = .ok (.if_icmp .ne 6, 3) := by decide +kernel
theorem own_d2_53 : decode method_3_code 53 = .ok (.bipush 29, 2) := by decide +kernel
theorem own_d2_55 : decode method_3_code 55 = .ok (.ireturn, 1) := by decide +kernel
theorem own_d2_56 : decode method_3_code 56 = .ok (.iload_n 0, 1) := by decide +kernel
theorem own_d2_57 : decode method_3_code 57 = .ok (.bipush 7, 2) := by decide +kernel
theorem own_d2_59 : decode method_3_code 59 = .ok (.if_icmp .ne 6, 3) := by decide +kernel
theorem own_d2_62 : decode method_3_code 62 = .ok (.bipush 24, 2) := by decide +kernel
theorem own_d2_64 : decode method_3_code 64 = .ok (.ireturn, 1) := by decide +kernel
theorem own_d2_65 : decode method_3_code 65 = .ok (.iload_n 0, 1) := by decide +kernel
theorem own_d2_66 : decode method_3_code 66 = .ok (.bipush 8, 2) := by decide +kernel
theorem own_d2_68 : decode method_3_code 68 = .ok (.if_icmp .ne 6, 3) := by decide +kernel
theorem own_d2_71 : decode method_3_code 71 = .ok (.bipush 17, 2) := by decide +kernel
theorem own_d2_73 : decode method_3_code 73 = .ok (.ireturn, 1) := by decide +kernel
theorem own_d2_74 : decode method_3_code 74 = .ok (.iload_n 0, 1) := by decide +kernel
theorem own_d2_75 : decode method_3_code 75 = .ok (.bipush 9, 2) := by decide +kernel
theorem own_d2_77 : decode method_3_code 77 = .ok (.if_icmp .ne 6, 3) := by decide +kernel
theorem own_d2_80 : decode method_3_code 80 = .ok (.bipush 30, 2) := by decide +kernel
theorem own_d2_82 : decode method_3_code 82 = .ok (.ireturn, 1) := by decide +kernel
theorem own_d2_83 : decode method_3_code 83 = .ok (.iload_n 0, 1) := by decide +kernel
theorem own_d2_84 : decode method_3_code 84 = .ok (.bipush 10, 2) := by decide +kernel
theorem own_d2_86 : decode method_3_code 86 = .ok (.if_icmp .ne 6, 3) := by decide +kernel
theorem own_d2_89 : decode method_3_code 89 = .ok (.bipush 18, 2) := by decide +kernel
theorem own_d2_91 : decode method_3_code 91 = .ok (.ireturn, 1) := by decide +kernel
theorem own_d2_92 : decode method_3_code 92 = .ok (.bipush 21, 2) := by decide +kernel
theorem own_d2_94 : decode method_3_code 94 = .ok (.ireturn, 1) := by decide +kernel
def own_r_bitAt (A : Nat → Addr) (k : Int32) : Int32 := if k = 0 then (28 : Int32) else if k = (1 : Int32) then (14 : Int32) else if k = (2 : Int32) then (15 : Int32) else if k = (3 : Int32) then (27 : Int32) else if k = (4 : Int32) then (19 : Int32) else if k = (5 : Int32) then (26 : Int32) else if k = (6 : Int32) then (29 : Int32) else if k = (7 : Int32) then (24 : Int32) else if k = (8 : Int32) then (17 : Int32) else if k = (9 : Int32) then (30 : Int32) else if k = (10 : Int32) then (18 : Int32) else (21 : Int32)
set_option maxRecDepth 65536 in
set_option maxHeartbeats 40000000 in
theorem rm_bitAt (l : Launch) {Z : State} {a0 : Array Value} (hw : ∀ d ∈ tables_1, d.before a0 Z = true) {A : Nat → Addr} {h0 : Heap} (W : own_W Z h0 A) (k : Int32)  :
    own_Does l Z (⟨"com/example/kittiwake/kittiwake/IntentFlagIsSetInPinLaw", "bitAt", "(I)I"⟩ : MethodName) method_3_code 1 (some .int) [] ({ frames := 0, cells := 0, slots := 0, locals := 0 } : Room) #[(.int k)] h0 (own_Is (.int (own_r_bitAt A k)) h0) := by
  refine own_body own_pn0 ?_
  intro p e s m below meth c T0 hx hby hml hret hlk hnm hown hZ X0 e0
  refine own_tr (XT.entry (Ls := #[.val (.int k)]) rfl) ?_
  show own_Goes p e below _ (T0.setTop (mkF m 0 #[.val (.int k)] []))
  refine own_by (fun _ zz => XS.iloadN X0.here hx rfl (hb hby own_d2_0) rfl zz) ?_
  show own_Goes p e below _ (T0.setTop (mkF m 1 #[.val (.int k)] [(.int k)]))
  by_cases q1 : k = 0
  · refine own_by (fun _ zz => XS.ifNo X0.here hx rfl (hb hby own_d2_1) rfl (XT.i0_ne_f q1) zz) ?_
    show own_Goes p e below _ (T0.setTop (mkF m 4 #[.val (.int k)] []))
    refine own_by (fun _ zz => XS.bipush X0.here hx rfl (hb hby own_d2_4) zz) ?_
    show own_Goes p e below _ (T0.setTop (mkF m 6 #[.val (.int k)] [(.int (28 : Int32))]))
    refine own_retI X0 hx hlk hret (hb hby own_d2_6) (by decide) (by decide) ?_
    exact ⟨by unfold own_r_bitAt; rw [if_pos q1] <;> rfl, rfl, e0⟩
  · refine own_by (fun _ zz => XS.ifYes X0.here hx rfl (pc0 := 1) (pc' := 7) rfl (hb hby own_d2_1) rfl (XT.i0_ne_t q1) (by decide) (by decide) zz) ?_
    show own_Goes p e below _ (T0.setTop (mkF m 7 #[.val (.int k)] []))
    refine own_by (fun _ zz => XS.iloadN X0.here hx rfl (hb hby own_d2_7) rfl zz) ?_
    show own_Goes p e below _ (T0.setTop (mkF m 8 #[.val (.int k)] [(.int k)]))
    refine own_by (fun _ zz => XS.iconst X0.here hx rfl (hb hby own_d2_8) zz) ?_
    show own_Goes p e below _ (T0.setTop (mkF m 9 #[.val (.int k)] [(.int (1 : Int32)), (.int k)]))
    by_cases q2 : k = (1 : Int32)
    · refine own_by (fun _ zz => XS.icmpNo X0.here hx rfl (hb hby own_d2_9) rfl (XT.ii_ne_f q2) zz) ?_
      show own_Goes p e below _ (T0.setTop (mkF m 12 #[.val (.int k)] []))
      refine own_by (fun _ zz => XS.bipush X0.here hx rfl (hb hby own_d2_12) zz) ?_
      show own_Goes p e below _ (T0.setTop (mkF m 14 #[.val (.int k)] [(.int (14 : Int32))]))
      refine own_retI X0 hx hlk hret (hb hby own_d2_14) (by decide) (by decide) ?_
      exact ⟨by unfold own_r_bitAt; rw [if_neg q1, if_pos q2] <;> rfl, rfl, e0⟩
    · refine own_by (fun _ zz => XS.icmpYes X0.here hx rfl (pc0 := 9) (pc' := 15) rfl (hb hby own_d2_9) rfl (XT.ii_ne_t q2) (by decide) (by decide) zz) ?_
      show own_Goes p e below _ (T0.setTop (mkF m 15 #[.val (.int k)] []))
      refine own_by (fun _ zz => XS.iloadN X0.here hx rfl (hb hby own_d2_15) rfl zz) ?_
      show own_Goes p e below _ (T0.setTop (mkF m 16 #[.val (.int k)] [(.int k)]))
      refine own_by (fun _ zz => XS.iconst X0.here hx rfl (hb hby own_d2_16) zz) ?_
      show own_Goes p e below _ (T0.setTop (mkF m 17 #[.val (.int k)] [(.int (2 : Int32)), (.int k)]))
      by_cases q3 : k = (2 : Int32)
      · refine own_by (fun _ zz => XS.icmpNo X0.here hx rfl (hb hby own_d2_17) rfl (XT.ii_ne_f q3) zz) ?_
        show own_Goes p e below _ (T0.setTop (mkF m 20 #[.val (.int k)] []))
        refine own_by (fun _ zz => XS.bipush X0.here hx rfl (hb hby own_d2_20) zz) ?_
        show own_Goes p e below _ (T0.setTop (mkF m 22 #[.val (.int k)] [(.int (15 : Int32))]))
        refine own_retI X0 hx hlk hret (hb hby own_d2_22) (by decide) (by decide) ?_
        exact ⟨by unfold own_r_bitAt; rw [if_neg q1, if_neg q2, if_pos q3] <;> rfl, rfl, e0⟩
      · refine own_by (fun _ zz => XS.icmpYes X0.here hx rfl (pc0 := 17) (pc' := 23) rfl (hb hby own_d2_17) rfl (XT.ii_ne_t q3) (by decide) (by decide) zz) ?_
        show own_Goes p e below _ (T0.setTop (mkF m 23 #[.val (.int k)] []))
        refine own_by (fun _ zz => XS.iloadN X0.here hx rfl (hb hby own_d2_23) rfl zz) ?_
        show own_Goes p e below _ (T0.setTop (mkF m 24 #[.val (.int k)] [(.int k)]))
        refine own_by (fun _ zz => XS.iconst X0.here hx rfl (hb hby own_d2_24) zz) ?_
        show own_Goes p e below _ (T0.setTop (mkF m 25 #[.val (.int k)] [(.int (3 : Int32)), (.int k)]))
        by_cases q4 : k = (3 : Int32)
        · refine own_by (fun _ zz => XS.icmpNo X0.here hx rfl (hb hby own_d2_25) rfl (XT.ii_ne_f q4) zz) ?_
          show own_Goes p e below _ (T0.setTop (mkF m 28 #[.val (.int k)] []))
          refine own_by (fun _ zz => XS.bipush X0.here hx rfl (hb hby own_d2_28) zz) ?_
          show own_Goes p e below _ (T0.setTop (mkF m 30 #[.val (.int k)] [(.int (27 : Int32))]))
          refine own_retI X0 hx hlk hret (hb hby own_d2_30) (by decide) (by decide) ?_
          exact ⟨by unfold own_r_bitAt; rw [if_neg q1, if_neg q2, if_neg q3, if_pos q4] <;> rfl, rfl, e0⟩
        · refine own_by (fun _ zz => XS.icmpYes X0.here hx rfl (pc0 := 25) (pc' := 31) rfl (hb hby own_d2_25) rfl (XT.ii_ne_t q4) (by decide) (by decide) zz) ?_
          show own_Goes p e below _ (T0.setTop (mkF m 31 #[.val (.int k)] []))
          refine own_by (fun _ zz => XS.iloadN X0.here hx rfl (hb hby own_d2_31) rfl zz) ?_
          show own_Goes p e below _ (T0.setTop (mkF m 32 #[.val (.int k)] [(.int k)]))
          refine own_by (fun _ zz => XS.iconst X0.here hx rfl (hb hby own_d2_32) zz) ?_
          show own_Goes p e below _ (T0.setTop (mkF m 33 #[.val (.int k)] [(.int (4 : Int32)), (.int k)]))
          by_cases q5 : k = (4 : Int32)
          · refine own_by (fun _ zz => XS.icmpNo X0.here hx rfl (hb hby own_d2_33) rfl (XT.ii_ne_f q5) zz) ?_
            show own_Goes p e below _ (T0.setTop (mkF m 36 #[.val (.int k)] []))
            refine own_by (fun _ zz => XS.bipush X0.here hx rfl (hb hby own_d2_36) zz) ?_
            show own_Goes p e below _ (T0.setTop (mkF m 38 #[.val (.int k)] [(.int (19 : Int32))]))
            refine own_retI X0 hx hlk hret (hb hby own_d2_38) (by decide) (by decide) ?_
            exact ⟨by unfold own_r_bitAt; rw [if_neg q1, if_neg q2, if_neg q3, if_neg q4, if_pos q5] <;> rfl, rfl, e0⟩
          · refine own_by (fun _ zz => XS.icmpYes X0.here hx rfl (pc0 := 33) (pc' := 39) rfl (hb hby own_d2_33) rfl (XT.ii_ne_t q5) (by decide) (by decide) zz) ?_
            show own_Goes p e below _ (T0.setTop (mkF m 39 #[.val (.int k)] []))
            refine own_by (fun _ zz => XS.iloadN X0.here hx rfl (hb hby own_d2_39) rfl zz) ?_
            show own_Goes p e below _ (T0.setTop (mkF m 40 #[.val (.int k)] [(.int k)]))
            refine own_by (fun _ zz => XS.iconst X0.here hx rfl (hb hby own_d2_40) zz) ?_
            show own_Goes p e below _ (T0.setTop (mkF m 41 #[.val (.int k)] [(.int (5 : Int32)), (.int k)]))
            by_cases q6 : k = (5 : Int32)
            · refine own_by (fun _ zz => XS.icmpNo X0.here hx rfl (hb hby own_d2_41) rfl (XT.ii_ne_f q6) zz) ?_
              show own_Goes p e below _ (T0.setTop (mkF m 44 #[.val (.int k)] []))
              refine own_by (fun _ zz => XS.bipush X0.here hx rfl (hb hby own_d2_44) zz) ?_
              show own_Goes p e below _ (T0.setTop (mkF m 46 #[.val (.int k)] [(.int (26 : Int32))]))
              refine own_retI X0 hx hlk hret (hb hby own_d2_46) (by decide) (by decide) ?_
              exact ⟨by unfold own_r_bitAt; rw [if_neg q1, if_neg q2, if_neg q3, if_neg q4, if_neg q5, if_pos q6] <;> rfl, rfl, e0⟩
            · refine own_by (fun _ zz => XS.icmpYes X0.here hx rfl (pc0 := 41) (pc' := 47) rfl (hb hby own_d2_41) rfl (XT.ii_ne_t q6) (by decide) (by decide) zz) ?_
              show own_Goes p e below _ (T0.setTop (mkF m 47 #[.val (.int k)] []))
              refine own_by (fun _ zz => XS.iloadN X0.here hx rfl (hb hby own_d2_47) rfl zz) ?_
              show own_Goes p e below _ (T0.setTop (mkF m 48 #[.val (.int k)] [(.int k)]))
              refine own_by (fun _ zz => XS.bipush X0.here hx rfl (hb hby own_d2_48) zz) ?_
              show own_Goes p e below _ (T0.setTop (mkF m 50 #[.val (.int k)] [(.int (6 : Int32)), (.int k)]))
              by_cases q7 : k = (6 : Int32)
              · refine own_by (fun _ zz => XS.icmpNo X0.here hx rfl (hb hby own_d2_50) rfl (XT.ii_ne_f q7) zz) ?_
                show own_Goes p e below _ (T0.setTop (mkF m 53 #[.val (.int k)] []))
                refine own_by (fun _ zz => XS.bipush X0.here hx rfl (hb hby own_d2_53) zz) ?_
                show own_Goes p e below _ (T0.setTop (mkF m 55 #[.val (.int k)] [(.int (29 : Int32))]))
                refine own_retI X0 hx hlk hret (hb hby own_d2_55) (by decide) (by decide) ?_
                exact ⟨by unfold own_r_bitAt; rw [if_neg q1, if_neg q2, if_neg q3, if_neg q4, if_neg q5, if_neg q6, if_pos q7] <;> rfl, rfl, e0⟩
              · refine own_by (fun _ zz => XS.icmpYes X0.here hx rfl (pc0 := 50) (pc' := 56) rfl (hb hby own_d2_50) rfl (XT.ii_ne_t q7) (by decide) (by decide) zz) ?_
                show own_Goes p e below _ (T0.setTop (mkF m 56 #[.val (.int k)] []))
                refine own_by (fun _ zz => XS.iloadN X0.here hx rfl (hb hby own_d2_56) rfl zz) ?_
                show own_Goes p e below _ (T0.setTop (mkF m 57 #[.val (.int k)] [(.int k)]))
                refine own_by (fun _ zz => XS.bipush X0.here hx rfl (hb hby own_d2_57) zz) ?_
                show own_Goes p e below _ (T0.setTop (mkF m 59 #[.val (.int k)] [(.int (7 : Int32)), (.int k)]))
                by_cases q8 : k = (7 : Int32)
                · refine own_by (fun _ zz => XS.icmpNo X0.here hx rfl (hb hby own_d2_59) rfl (XT.ii_ne_f q8) zz) ?_
                  show own_Goes p e below _ (T0.setTop (mkF m 62 #[.val (.int k)] []))
                  refine own_by (fun _ zz => XS.bipush X0.here hx rfl (hb hby own_d2_62) zz) ?_
                  show own_Goes p e below _ (T0.setTop (mkF m 64 #[.val (.int k)] [(.int (24 : Int32))]))
                  refine own_retI X0 hx hlk hret (hb hby own_d2_64) (by decide) (by decide) ?_
                  exact ⟨by unfold own_r_bitAt; rw [if_neg q1, if_neg q2, if_neg q3, if_neg q4, if_neg q5, if_neg q6, if_neg q7, if_pos q8] <;> rfl, rfl, e0⟩
                · refine own_by (fun _ zz => XS.icmpYes X0.here hx rfl (pc0 := 59) (pc' := 65) rfl (hb hby own_d2_59) rfl (XT.ii_ne_t q8) (by decide) (by decide) zz) ?_
                  show own_Goes p e below _ (T0.setTop (mkF m 65 #[.val (.int k)] []))
                  refine own_by (fun _ zz => XS.iloadN X0.here hx rfl (hb hby own_d2_65) rfl zz) ?_
                  show own_Goes p e below _ (T0.setTop (mkF m 66 #[.val (.int k)] [(.int k)]))
                  refine own_by (fun _ zz => XS.bipush X0.here hx rfl (hb hby own_d2_66) zz) ?_
                  show own_Goes p e below _ (T0.setTop (mkF m 68 #[.val (.int k)] [(.int (8 : Int32)), (.int k)]))
                  by_cases q9 : k = (8 : Int32)
                  · refine own_by (fun _ zz => XS.icmpNo X0.here hx rfl (hb hby own_d2_68) rfl (XT.ii_ne_f q9) zz) ?_
                    show own_Goes p e below _ (T0.setTop (mkF m 71 #[.val (.int k)] []))
                    refine own_by (fun _ zz => XS.bipush X0.here hx rfl (hb hby own_d2_71) zz) ?_
                    show own_Goes p e below _ (T0.setTop (mkF m 73 #[.val (.int k)] [(.int (17 : Int32))]))
                    refine own_retI X0 hx hlk hret (hb hby own_d2_73) (by decide) (by decide) ?_
                    exact ⟨by unfold own_r_bitAt; rw [if_neg q1, if_neg q2, if_neg q3, if_neg q4, if_neg q5, if_neg q6, if_neg q7, if_neg q8, if_pos q9] <;> rfl, rfl, e0⟩
                  · refine own_by (fun _ zz => XS.icmpYes X0.here hx rfl (pc0 := 68) (pc' := 74) rfl (hb hby own_d2_68) rfl (XT.ii_ne_t q9) (by decide) (by decide) zz) ?_
                    show own_Goes p e below _ (T0.setTop (mkF m 74 #[.val (.int k)] []))
                    refine own_by (fun _ zz => XS.iloadN X0.here hx rfl (hb hby own_d2_74) rfl zz) ?_
                    show own_Goes p e below _ (T0.setTop (mkF m 75 #[.val (.int k)] [(.int k)]))
                    refine own_by (fun _ zz => XS.bipush X0.here hx rfl (hb hby own_d2_75) zz) ?_
                    show own_Goes p e below _ (T0.setTop (mkF m 77 #[.val (.int k)] [(.int (9 : Int32)), (.int k)]))
                    by_cases q10 : k = (9 : Int32)
                    · refine own_by (fun _ zz => XS.icmpNo X0.here hx rfl (hb hby own_d2_77) rfl (XT.ii_ne_f q10) zz) ?_
                      show own_Goes p e below _ (T0.setTop (mkF m 80 #[.val (.int k)] []))
                      refine own_by (fun _ zz => XS.bipush X0.here hx rfl (hb hby own_d2_80) zz) ?_
                      show own_Goes p e below _ (T0.setTop (mkF m 82 #[.val (.int k)] [(.int (30 : Int32))]))
                      refine own_retI X0 hx hlk hret (hb hby own_d2_82) (by decide) (by decide) ?_
                      exact ⟨by unfold own_r_bitAt; rw [if_neg q1, if_neg q2, if_neg q3, if_neg q4, if_neg q5, if_neg q6, if_neg q7, if_neg q8, if_neg q9, if_pos q10] <;> rfl, rfl, e0⟩
                    · refine own_by (fun _ zz => XS.icmpYes X0.here hx rfl (pc0 := 77) (pc' := 83) rfl (hb hby own_d2_77) rfl (XT.ii_ne_t q10) (by decide) (by decide) zz) ?_
                      show own_Goes p e below _ (T0.setTop (mkF m 83 #[.val (.int k)] []))
                      refine own_by (fun _ zz => XS.iloadN X0.here hx rfl (hb hby own_d2_83) rfl zz) ?_
                      show own_Goes p e below _ (T0.setTop (mkF m 84 #[.val (.int k)] [(.int k)]))
                      refine own_by (fun _ zz => XS.bipush X0.here hx rfl (hb hby own_d2_84) zz) ?_
                      show own_Goes p e below _ (T0.setTop (mkF m 86 #[.val (.int k)] [(.int (10 : Int32)), (.int k)]))
                      by_cases q11 : k = (10 : Int32)
                      · refine own_by (fun _ zz => XS.icmpNo X0.here hx rfl (hb hby own_d2_86) rfl (XT.ii_ne_f q11) zz) ?_
                        show own_Goes p e below _ (T0.setTop (mkF m 89 #[.val (.int k)] []))
                        refine own_by (fun _ zz => XS.bipush X0.here hx rfl (hb hby own_d2_89) zz) ?_
                        show own_Goes p e below _ (T0.setTop (mkF m 91 #[.val (.int k)] [(.int (18 : Int32))]))
                        refine own_retI X0 hx hlk hret (hb hby own_d2_91) (by decide) (by decide) ?_
                        exact ⟨by unfold own_r_bitAt; rw [if_neg q1, if_neg q2, if_neg q3, if_neg q4, if_neg q5, if_neg q6, if_neg q7, if_neg q8, if_neg q9, if_neg q10, if_pos q11] <;> rfl, rfl, e0⟩
                      · refine own_by (fun _ zz => XS.icmpYes X0.here hx rfl (pc0 := 86) (pc' := 92) rfl (hb hby own_d2_86) rfl (XT.ii_ne_t q11) (by decide) (by decide) zz) ?_
                        show own_Goes p e below _ (T0.setTop (mkF m 92 #[.val (.int k)] []))
                        refine own_by (fun _ zz => XS.bipush X0.here hx rfl (hb hby own_d2_92) zz) ?_
                        show own_Goes p e below _ (T0.setTop (mkF m 94 #[.val (.int k)] [(.int (21 : Int32))]))
                        refine own_retI X0 hx hlk hret (hb hby own_d2_94) (by decide) (by decide) ?_
                        exact ⟨by unfold own_r_bitAt; rw [if_neg q1, if_neg q2, if_neg q3, if_neg q4, if_neg q5, if_neg q6, if_neg q7, if_neg q8, if_neg q9, if_neg q10, if_neg q11] <;> rfl, rfl, e0⟩
theorem own_d3_0 : decode prog_12_method_4_code 0 = .ok (.aload_n 0, 1) := by decide +kernel
theorem own_d3_1 : decode prog_12_method_4_code 1 = .ok (.getfield 59, 3) := by decide +kernel
theorem own_d3_4 : decode prog_12_method_4_code 4 = .ok (.ireturn, 1) := by decide +kernel
def own_r_value (A : Nat → Addr) (b : Addr) (u : Int32) : Int32 := u
set_option maxRecDepth 65536 in
set_option maxHeartbeats 40000000 in
theorem rm_value (l : Launch) {Z : State} {a0 : Array Value} (hw : ∀ d ∈ tables_1, d.before a0 Z = true) {A : Nat → Addr} {h0 : Heap} (W : own_W Z h0 A) (b : Addr) (u : Int32) (F : Fld Z h0 b "com/example/kittiwake/kittiwake/IntentFlag" "value" "I" (.int u)) :
    own_Does l Z (⟨"com/example/kittiwake/kittiwake/IntentFlag", "value", "()I"⟩ : MethodName) prog_12_method_4_code 1 (some .int) [] ({ frames := 0, cells := 0, slots := 0, locals := 0 } : Room) #[(.ref b)] h0 (own_Is (.int (own_r_value A b u)) h0) := by
  refine own_body own_pn1 ?_
  intro p e s m below meth c T0 hx hby hml hret hlk hnm hown hZ X0 e0
  refine own_tr (XT.entry (Ls := #[.val (.ref b)]) rfl) ?_
  show own_Goes p e below _ (T0.setTop (mkF m 0 #[.val (.ref b)] []))
  refine own_by (fun _ zz => XS.aloadN X0.here hx rfl (hb hby own_d3_0) rfl rfl zz) ?_
  show own_Goes p e below _ (T0.setTop (mkF m 1 #[.val (.ref b)] [(.ref b)]))
  refine own_getF X0 hx hZ hown (own_w16 hw) e0 F (hb hby own_d3_1) fun T1 X1 e1 => ?_
  show own_Goes p e below _ (T1.setTop (mkF m 4 #[.val (.ref b)] [(.int u)]))
  refine own_retI X1 hx hlk hret (hb hby own_d3_4) (by decide) (by decide) ?_
  exact ⟨by unfold own_r_value; rfl, rfl, e1⟩
theorem own_d4_0 : decode prog_12_method_5_code 0 = .ok (.iload_n 1, 1) := by decide +kernel
theorem own_d4_1 : decode prog_12_method_5_code 1 = .ok (.aload_n 0, 1) := by decide +kernel
theorem own_d4_2 : decode prog_12_method_5_code 2 = .ok (.getfield 59, 3) := by decide +kernel
theorem own_d4_5 : decode prog_12_method_5_code 5 = .ok (.iand, 1) := by decide +kernel
theorem own_d4_6 : decode prog_12_method_5_code 6 = .ok (.ifCond .eq 7, 3) := by decide +kernel
theorem own_d4_9 : decode prog_12_method_5_code 9 = .ok (.iconst 1, 1) := by decide +kernel
theorem own_d4_10 : decode prog_12_method_5_code 10 = .ok (.goto 4, 3) := by decide +kernel
theorem own_d4_13 : decode prog_12_method_5_code 13 = .ok (.iconst 0, 1) := by decide +kernel
theorem own_d4_14 : decode prog_12_method_5_code 14 = .ok (.ireturn, 1) := by decide +kernel
def own_r_isSetIn (A : Nat → Addr) (b : Addr) (u : Int32) (f : Int32) : Int32 := if (f &&& u) = 0 then (0 : Int32) else (1 : Int32)
set_option maxRecDepth 65536 in
set_option maxHeartbeats 40000000 in
theorem rm_isSetIn (l : Launch) {Z : State} {a0 : Array Value} (hw : ∀ d ∈ tables_1, d.before a0 Z = true) {A : Nat → Addr} {h0 : Heap} (W : own_W Z h0 A) (b : Addr) (u : Int32) (f : Int32) (F : Fld Z h0 b "com/example/kittiwake/kittiwake/IntentFlag" "value" "I" (.int u)) :
    own_Does l Z (⟨"com/example/kittiwake/kittiwake/IntentFlag", "isSetIn", "(I)Z"⟩ : MethodName) prog_12_method_5_code 2 (some .boolean) [] ({ frames := 0, cells := 0, slots := 0, locals := 0 } : Room) #[(.ref b), (.int f)] h0 (own_Is (.int (own_r_isSetIn A b u f)) h0) := by
  refine own_body own_pn1 ?_
  intro p e s m below meth c T0 hx hby hml hret hlk hnm hown hZ X0 e0
  refine own_tr (XT.entry (Ls := #[.val (.ref b), .val (.int f)]) rfl) ?_
  show own_Goes p e below _ (T0.setTop (mkF m 0 #[.val (.ref b), .val (.int f)] []))
  refine own_by (fun _ zz => XS.iloadN X0.here hx rfl (hb hby own_d4_0) rfl zz) ?_
  show own_Goes p e below _ (T0.setTop (mkF m 1 #[.val (.ref b), .val (.int f)] [(.int f)]))
  refine own_by (fun _ zz => XS.aloadN X0.here hx rfl (hb hby own_d4_1) rfl rfl zz) ?_
  show own_Goes p e below _ (T0.setTop (mkF m 2 #[.val (.ref b), .val (.int f)] [(.ref b), (.int f)]))
  refine own_getF X0 hx hZ hown (own_w16 hw) e0 F (hb hby own_d4_2) fun T1 X1 e1 => ?_
  show own_Goes p e below _ (T1.setTop (mkF m 5 #[.val (.ref b), .val (.int f)] [(.int u), (.int f)]))
  refine own_by (fun _ zz => XS.iand X1.here hx rfl (hb hby own_d4_5) rfl zz) ?_
  show own_Goes p e below _ (T1.setTop (mkF m 6 #[.val (.ref b), .val (.int f)] [(.int (f &&& u))]))
  by_cases q2 : (f &&& u) = 0
  · refine own_by (fun _ zz => XS.ifYes X1.here hx rfl (pc0 := 6) (pc' := 13) rfl (hb hby own_d4_6) rfl (XT.i0_eq_t q2) (by decide) (by decide) zz) ?_
    show own_Goes p e below _ (T1.setTop (mkF m 13 #[.val (.ref b), .val (.int f)] []))
    refine own_by (fun _ zz => XS.iconst X1.here hx rfl (hb hby own_d4_13) zz) ?_
    show own_Goes p e below _ (T1.setTop (mkF m 14 #[.val (.ref b), .val (.int f)] [(.int (0 : Int32))]))
    refine own_retN X1 hx hlk (ty := .boolean) hret (by simp) (hb hby own_d4_14) (by decide) (by decide) ?_
    exact ⟨by unfold own_r_isSetIn; rw [if_pos q2] <;> rfl, rfl, e1⟩
  · refine own_by (fun _ zz => XS.ifNo X1.here hx rfl (hb hby own_d4_6) rfl (XT.i0_eq_f q2) zz) ?_
    show own_Goes p e below _ (T1.setTop (mkF m 9 #[.val (.ref b), .val (.int f)] []))
    refine own_by (fun _ zz => XS.iconst X1.here hx rfl (hb hby own_d4_9) zz) ?_
    show own_Goes p e below _ (T1.setTop (mkF m 10 #[.val (.ref b), .val (.int f)] [(.int (1 : Int32))]))
    refine own_by (fun _ zz => XS.goto X1.here hx rfl (pc0 := 10) (pc' := 14) rfl (hb hby own_d4_10) (by decide) (by decide) zz) ?_
    show own_Goes p e below _ (T1.setTop (mkF m 14 #[.val (.ref b), .val (.int f)] [(.int (1 : Int32))]))
    refine own_retN X1 hx hlk (ty := .boolean) hret (by simp) (hb hby own_d4_14) (by decide) (by decide) ?_
    exact ⟨by unfold own_r_isSetIn; rw [if_neg q2] <;> rfl, rfl, e1⟩
theorem own_twelve {k : Int32} (h : 0 ≤ k.toInt ∧ k.toInt < 12) : k = 0 ∨ k = 1 ∨ k = 2 ∨ k = 3 ∨ k = 4 ∨ k = 5 ∨ k = 6 ∨ k = 7 ∨ k = 8 ∨ k = 9 ∨ k = 10 ∨ k = 11 := by
  have h2 : k.toInt = 0 ∨ k.toInt = 1 ∨ k.toInt = 2 ∨ k.toInt = 3 ∨ k.toInt = 4 ∨ k.toInt = 5 ∨ k.toInt = 6 ∨ k.toInt = 7 ∨ k.toInt = 8 ∨ k.toInt = 9 ∨ k.toInt = 10 ∨ k.toInt = 11 := by omega
  rcases h2 with h | h | h | h | h | h | h | h | h | h | h | h
  · exact Or.inl (own_eqInt h)
  · exact Or.inr (Or.inl (own_eqInt h))
  · exact Or.inr (Or.inr (Or.inl (own_eqInt h)))
  · exact Or.inr (Or.inr (Or.inr (Or.inl (own_eqInt h))))
  · exact Or.inr (Or.inr (Or.inr (Or.inr (Or.inl (own_eqInt h)))))
  · exact Or.inr (Or.inr (Or.inr (Or.inr (Or.inr (Or.inl (own_eqInt h))))))
  · exact Or.inr (Or.inr (Or.inr (Or.inr (Or.inr (Or.inr (Or.inl (own_eqInt h)))))))
  · exact Or.inr (Or.inr (Or.inr (Or.inr (Or.inr (Or.inr (Or.inr (Or.inl (own_eqInt h))))))))
  · exact Or.inr (Or.inr (Or.inr (Or.inr (Or.inr (Or.inr (Or.inr (Or.inr (Or.inl (own_eqInt h)))))))))
  · exact Or.inr (Or.inr (Or.inr (Or.inr (Or.inr (Or.inr (Or.inr (Or.inr (Or.inr (Or.inl (own_eqInt h))))))))))
  · exact Or.inr (Or.inr (Or.inr (Or.inr (Or.inr (Or.inr (Or.inr (Or.inr (Or.inr (Or.inr (Or.inl (own_eqInt h)))))))))))
  · exact Or.inr (Or.inr (Or.inr (Or.inr (Or.inr (Or.inr (Or.inr (Or.inr (Or.inr (Or.inr (Or.inr ((own_eqInt h))))))))))))
theorem own_fl {Z : State} {h : Heap} {A : Nat → Addr} (W : own_W Z h A) {k : Int32} (hk : 0 ≤ k.toInt ∧ k.toInt < 12) : Exa Z h (own_r_flagAt A k) "com/example/kittiwake/kittiwake/IntentFlag" ∧ Fld Z h (own_r_flagAt A k) "com/example/kittiwake/kittiwake/IntentFlag" "value" "I" (.int ((1 : Int32) <<< ((own_r_bitAt A k) &&& 31))) := by
  rcases own_twelve hk with rfl | rfl | rfl | rfl | rfl | rfl | rfl | rfl | rfl | rfl | rfl | rfl
  · have z : ((1 : Int32) <<< ((own_r_bitAt A 0) &&& 31)) = 268435456 := by unfold own_r_bitAt; decide
    rw [z]; exact ⟨(own_f1 W), (own_f24 W)⟩
  · have z : ((1 : Int32) <<< ((own_r_bitAt A 1) &&& 31)) = 16384 := by unfold own_r_bitAt; decide
    rw [z]; exact ⟨(own_f9 W), (own_f28 W)⟩
  · have z : ((1 : Int32) <<< ((own_r_bitAt A 2) &&& 31)) = 32768 := by unfold own_r_bitAt; decide
    rw [z]; exact ⟨(own_f3 W), (own_f25 W)⟩
  · have z : ((1 : Int32) <<< ((own_r_bitAt A 3) &&& 31)) = 134217728 := by unfold own_r_bitAt; decide
    rw [z]; exact ⟨(own_f15 W), (own_f31 W)⟩
  · have z : ((1 : Int32) <<< ((own_r_bitAt A 4) &&& 31)) = 524288 := by unfold own_r_bitAt; decide
    rw [z]; exact ⟨(own_f7 W), (own_f27 W)⟩
  · have z : ((1 : Int32) <<< ((own_r_bitAt A 5) &&& 31)) = 67108864 := by unfold own_r_bitAt; decide
    rw [z]; exact ⟨(own_f23 W), (own_f35 W)⟩
  · have z : ((1 : Int32) <<< ((own_r_bitAt A 6) &&& 31)) = 536870912 := by unfold own_r_bitAt; decide
    rw [z]; exact ⟨(own_f11 W), (own_f29 W)⟩
  · have z : ((1 : Int32) <<< ((own_r_bitAt A 7) &&& 31)) = 16777216 := by unfold own_r_bitAt; decide
    rw [z]; exact ⟨(own_f19 W), (own_f33 W)⟩
  · have z : ((1 : Int32) <<< ((own_r_bitAt A 8) &&& 31)) = 131072 := by unfold own_r_bitAt; decide
    rw [z]; exact ⟨(own_f5 W), (own_f26 W)⟩
  · have z : ((1 : Int32) <<< ((own_r_bitAt A 9) &&& 31)) = 1073741824 := by unfold own_r_bitAt; decide
    rw [z]; exact ⟨(own_f17 W), (own_f32 W)⟩
  · have z : ((1 : Int32) <<< ((own_r_bitAt A 10) &&& 31)) = 262144 := by unfold own_r_bitAt; decide
    rw [z]; exact ⟨(own_f21 W), (own_f34 W)⟩
  · have z : ((1 : Int32) <<< ((own_r_bitAt A 11) &&& 31)) = 2097152 := by unfold own_r_bitAt; decide
    rw [z]; exact ⟨(own_f13 W), (own_f30 W)⟩
theorem own_bvA (x : BitVec 32) (i : Nat) : ((x >>> i) &&& 1#32) = 0#32 ↔ x.getLsbD i = false := by
  constructor
  · intro h
    have q := congrArg (fun y : BitVec 32 => y.getLsbD 0) h
    simpa using q
  · intro h
    apply BitVec.eq_of_getLsbD_eq
    intro j hj
    by_cases q : j = 0
    · subst q; simp [h]
    · simp [BitVec.getLsbD_one, q]
theorem own_bvB (x : BitVec 32) (i : Nat) (hi : i < 32) : (x &&& (1#32 <<< i)) = 0#32 ↔ x.getLsbD i = false := by
  constructor
  · intro h
    have q := congrArg (fun y : BitVec 32 => y.getLsbD i) h
    simpa [hi] using q
  · intro h
    apply BitVec.eq_of_getLsbD_eq
    intro j hj
    by_cases q : j = i
    · subst q; simp [h]
    · have q2 : ¬ (j - i = 0 ∧ ¬ j < i) := by omega
      simp [BitVec.getLsbD_one]
      intro _ _ _
      omega
theorem own_bitN (f : Int32) (b : Int32) (i : Nat) (hi : i < 32) (h1 : (XT.ushr f b).toBitVec = f.toBitVec >>> i) (h2 : ((1 : Int32) <<< (b &&& 31)).toBitVec = 1#32 <<< i) : ((XT.ushr f b) &&& (1 : Int32)) = 0 ↔ (f &&& ((1 : Int32) <<< (b &&& 31))) = 0 := by
  rw [← Int32.toBitVec_inj, ← Int32.toBitVec_inj, Int32.toBitVec_and, Int32.toBitVec_and, h1, h2]
  exact (own_bvA f.toBitVec i).trans (own_bvB f.toBitVec i hi).symm
theorem own_bit (A : Nat → Addr) (f : Int32) {k : Int32} (hk : 0 ≤ k.toInt ∧ k.toInt < 12) : ((XT.ushr f (own_r_bitAt A k)) &&& (1 : Int32)) = 0 ↔ (f &&& ((1 : Int32) <<< ((own_r_bitAt A k) &&& 31))) = 0 := by
  rcases own_twelve hk with rfl | rfl | rfl | rfl | rfl | rfl | rfl | rfl | rfl | rfl | rfl | rfl
  · show ((XT.ushr f (28 : Int32)) &&& (1 : Int32)) = 0 ↔ (f &&& ((1 : Int32) <<< ((28 : Int32) &&& 31))) = 0
    exact own_bitN f 28 28 (by decide) rfl rfl
  · show ((XT.ushr f (14 : Int32)) &&& (1 : Int32)) = 0 ↔ (f &&& ((1 : Int32) <<< ((14 : Int32) &&& 31))) = 0
    exact own_bitN f 14 14 (by decide) rfl rfl
  · show ((XT.ushr f (15 : Int32)) &&& (1 : Int32)) = 0 ↔ (f &&& ((1 : Int32) <<< ((15 : Int32) &&& 31))) = 0
    exact own_bitN f 15 15 (by decide) rfl rfl
  · show ((XT.ushr f (27 : Int32)) &&& (1 : Int32)) = 0 ↔ (f &&& ((1 : Int32) <<< ((27 : Int32) &&& 31))) = 0
    exact own_bitN f 27 27 (by decide) rfl rfl
  · show ((XT.ushr f (19 : Int32)) &&& (1 : Int32)) = 0 ↔ (f &&& ((1 : Int32) <<< ((19 : Int32) &&& 31))) = 0
    exact own_bitN f 19 19 (by decide) rfl rfl
  · show ((XT.ushr f (26 : Int32)) &&& (1 : Int32)) = 0 ↔ (f &&& ((1 : Int32) <<< ((26 : Int32) &&& 31))) = 0
    exact own_bitN f 26 26 (by decide) rfl rfl
  · show ((XT.ushr f (29 : Int32)) &&& (1 : Int32)) = 0 ↔ (f &&& ((1 : Int32) <<< ((29 : Int32) &&& 31))) = 0
    exact own_bitN f 29 29 (by decide) rfl rfl
  · show ((XT.ushr f (24 : Int32)) &&& (1 : Int32)) = 0 ↔ (f &&& ((1 : Int32) <<< ((24 : Int32) &&& 31))) = 0
    exact own_bitN f 24 24 (by decide) rfl rfl
  · show ((XT.ushr f (17 : Int32)) &&& (1 : Int32)) = 0 ↔ (f &&& ((1 : Int32) <<< ((17 : Int32) &&& 31))) = 0
    exact own_bitN f 17 17 (by decide) rfl rfl
  · show ((XT.ushr f (30 : Int32)) &&& (1 : Int32)) = 0 ↔ (f &&& ((1 : Int32) <<< ((30 : Int32) &&& 31))) = 0
    exact own_bitN f 30 30 (by decide) rfl rfl
  · show ((XT.ushr f (18 : Int32)) &&& (1 : Int32)) = 0 ↔ (f &&& ((1 : Int32) <<< ((18 : Int32) &&& 31))) = 0
    exact own_bitN f 18 18 (by decide) rfl rfl
  · show ((XT.ushr f (21 : Int32)) &&& (1 : Int32)) = 0 ↔ (f &&& ((1 : Int32) <<< ((21 : Int32) &&& 31))) = 0
    exact own_bitN f 21 21 (by decide) rfl rfl
def own_Q (h0 : Heap) (v : Option Value) (h : Heap) (L : List Loc) : Prop := v = some (.int 1) ∧ L = []
set_option maxRecDepth 65536 in
set_option maxHeartbeats 40000000 in
theorem rm_law (l : Launch) {Z : State} {a0 : Array Value} (hw : ∀ d ∈ tables_1, d.before a0 Z = true) (ws : List Jvm.Cond) {A : Nat → Addr} {h0 : Heap} (W : own_W Z h0 A) (p0 : Int32) (p1 : Int32) :
    own_Does l Z x code maxLocals ret ws room_1 #[(.int p0), (.int p1)] h0 (own_Q h0) := by
  refine own_body own_pn0 ?_
  intro p e s m below meth c T0 hx hby hml hret hlk hnm hown hZ X0 e0
  have KK := own_mod p0 12 12 (by decide) (by decide)
  have FL := own_fl W KK
  refine own_tr (XT.entry (Ls := #[.val (.int p0), .val (.int p1), .unset, .unset, .unset, .unset]) rfl) ?_
  show own_Goes p e below _ (T0.setTop (mkF m 0 #[.val (.int p0), .val (.int p1), .unset, .unset, .unset, .unset] []))
  refine own_by (fun _ zz => XS.iloadN X0.here hx rfl (hb hby at_0) rfl zz) ?_
  show own_Goes p e below _ (T0.setTop (mkF m 1 #[.val (.int p0), .val (.int p1), .unset, .unset, .unset, .unset] [(.int p0)]))
  refine own_by (fun _ zz => X0.ldcI hx hown (mvT hZ (own_w0 hw)) rfl (hb hby at_1) zz) ?_
  show own_Goes p e below _ (T0.setTop (mkF m 3 #[.val (.int p0), .val (.int p1), .unset, .unset, .unset, .unset] [(.int (2147483647 : Int32)), (.int p0)]))
  refine own_by (fun _ zz => XS.iand X0.here hx rfl (hb hby at_3) rfl zz) ?_
  show own_Goes p e below _ (T0.setTop (mkF m 4 #[.val (.int p0), .val (.int p1), .unset, .unset, .unset, .unset] [(.int (p0 &&& (2147483647 : Int32)))]))
  refine own_by (fun _ zz => XS.bipush X0.here hx rfl (hb hby at_4) zz) ?_
  show own_Goes p e below _ (T0.setTop (mkF m 6 #[.val (.int p0), .val (.int p1), .unset, .unset, .unset, .unset] [(.int (12 : Int32)), (.int (p0 &&& (2147483647 : Int32)))]))
  refine own_by (fun _ zz => iremM X0 hx rfl (hb hby at_6) rfl (by decide) zz) ?_
  show own_Goes p e below _ (T0.setTop (mkF m 7 #[.val (.int p0), .val (.int p1), .unset, .unset, .unset, .unset] [(.int ((p0 &&& (2147483647 : Int32)) % (12 : Int32)))]))
  refine own_by (fun _ zz => XS.istoreN X0.here hx rfl (hb hby at_7) rfl (l' := #[.val (.int p0), .val (.int p1), .val (.int ((p0 &&& (2147483647 : Int32)) % (12 : Int32))), .unset, .unset, .unset]) rfl zz) ?_
  show own_Goes p e below _ (T0.setTop (mkF m 8 #[.val (.int p0), .val (.int p1), .val (.int ((p0 &&& (2147483647 : Int32)) % (12 : Int32))), .unset, .unset, .unset] []))
  refine own_by (fun _ zz => XS.iloadN X0.here hx rfl (hb hby at_8) rfl zz) ?_
  show own_Goes p e below _ (T0.setTop (mkF m 9 #[.val (.int p0), .val (.int p1), .val (.int ((p0 &&& (2147483647 : Int32)) % (12 : Int32))), .unset, .unset, .unset] [(.int ((p0 &&& (2147483647 : Int32)) % (12 : Int32)))]))
  refine own_callS0 X0 hx hZ (W := 0) (argsL := [(.int ((p0 &&& (2147483647 : Int32)) % (12 : Int32)))]) (rest := []) hown (own_w1 hw) (own_w2 hw) (own_w3 hw) (own_w4 hw) (by decide) e0 (rm_flagAt l hw W ((p0 &&& (2147483647 : Int32)) % (12 : Int32))) (by decide) (by decide) (by decide) (by decide) (by rw [hml]; rfl) (lenOf own_pd0 rfl) rfl (Nat.le_of_ble_eq_true rfl) (hb hby at_9) fun T1 X1 e1 => ?_
  show own_Goes p e below _ (T1.setTop (mkF m 12 #[.val (.int p0), .val (.int p1), .val (.int ((p0 &&& (2147483647 : Int32)) % (12 : Int32))), .unset, .unset, .unset] [(.ref (own_r_flagAt A ((p0 &&& (2147483647 : Int32)) % (12 : Int32))))]))
  refine own_by (fun _ zz => XS.astoreN X1.here hx rfl (hb hby at_12) rfl rfl (l' := #[.val (.int p0), .val (.int p1), .val (.int ((p0 &&& (2147483647 : Int32)) % (12 : Int32))), .val (.ref (own_r_flagAt A ((p0 &&& (2147483647 : Int32)) % (12 : Int32)))), .unset, .unset]) rfl zz) ?_
  show own_Goes p e below _ (T1.setTop (mkF m 13 #[.val (.int p0), .val (.int p1), .val (.int ((p0 &&& (2147483647 : Int32)) % (12 : Int32))), .val (.ref (own_r_flagAt A ((p0 &&& (2147483647 : Int32)) % (12 : Int32)))), .unset, .unset] []))
  refine own_by (fun _ zz => XS.iloadN X1.here hx rfl (hb hby at_13) rfl zz) ?_
  show own_Goes p e below _ (T1.setTop (mkF m 14 #[.val (.int p0), .val (.int p1), .val (.int ((p0 &&& (2147483647 : Int32)) % (12 : Int32))), .val (.ref (own_r_flagAt A ((p0 &&& (2147483647 : Int32)) % (12 : Int32)))), .unset, .unset] [(.int ((p0 &&& (2147483647 : Int32)) % (12 : Int32)))]))
  refine own_callS0 X1 hx hZ (W := 0) (argsL := [(.int ((p0 &&& (2147483647 : Int32)) % (12 : Int32)))]) (rest := []) hown (own_w8 hw) (own_w9 hw) (own_w3 hw) (own_w10 hw) (by decide) e1 (rm_bitAt l hw W ((p0 &&& (2147483647 : Int32)) % (12 : Int32))) (by decide) (by decide) (by decide) (by decide) (by rw [hml]; rfl) (lenOf own_pd1 rfl) rfl (Nat.le_of_ble_eq_true rfl) (hb hby at_14) fun T2 X2 e2 => ?_
  show own_Goes p e below _ (T2.setTop (mkF m 17 #[.val (.int p0), .val (.int p1), .val (.int ((p0 &&& (2147483647 : Int32)) % (12 : Int32))), .val (.ref (own_r_flagAt A ((p0 &&& (2147483647 : Int32)) % (12 : Int32)))), .unset, .unset] [(.int (own_r_bitAt A ((p0 &&& (2147483647 : Int32)) % (12 : Int32))))]))
  refine own_by (fun _ zz => XS.istore X2.here hx rfl (hb hby at_17) rfl (l' := #[.val (.int p0), .val (.int p1), .val (.int ((p0 &&& (2147483647 : Int32)) % (12 : Int32))), .val (.ref (own_r_flagAt A ((p0 &&& (2147483647 : Int32)) % (12 : Int32)))), .val (.int (own_r_bitAt A ((p0 &&& (2147483647 : Int32)) % (12 : Int32)))), .unset]) rfl zz) ?_
  show own_Goes p e below _ (T2.setTop (mkF m 19 #[.val (.int p0), .val (.int p1), .val (.int ((p0 &&& (2147483647 : Int32)) % (12 : Int32))), .val (.ref (own_r_flagAt A ((p0 &&& (2147483647 : Int32)) % (12 : Int32)))), .val (.int (own_r_bitAt A ((p0 &&& (2147483647 : Int32)) % (12 : Int32)))), .unset] []))
  refine own_by (fun _ zz => XS.iloadN X2.here hx rfl (hb hby at_19) rfl zz) ?_
  show own_Goes p e below _ (T2.setTop (mkF m 20 #[.val (.int p0), .val (.int p1), .val (.int ((p0 &&& (2147483647 : Int32)) % (12 : Int32))), .val (.ref (own_r_flagAt A ((p0 &&& (2147483647 : Int32)) % (12 : Int32)))), .val (.int (own_r_bitAt A ((p0 &&& (2147483647 : Int32)) % (12 : Int32)))), .unset] [(.int p1)]))
  refine own_by (fun _ zz => XS.iload X2.here hx rfl (hb hby at_20) rfl zz) ?_
  show own_Goes p e below _ (T2.setTop (mkF m 22 #[.val (.int p0), .val (.int p1), .val (.int ((p0 &&& (2147483647 : Int32)) % (12 : Int32))), .val (.ref (own_r_flagAt A ((p0 &&& (2147483647 : Int32)) % (12 : Int32)))), .val (.int (own_r_bitAt A ((p0 &&& (2147483647 : Int32)) % (12 : Int32)))), .unset] [(.int (own_r_bitAt A ((p0 &&& (2147483647 : Int32)) % (12 : Int32)))), (.int p1)]))
  refine own_by (fun _ zz => XT.iushr X2.here hx rfl (hb hby at_22) rfl zz) ?_
  show own_Goes p e below _ (T2.setTop (mkF m 23 #[.val (.int p0), .val (.int p1), .val (.int ((p0 &&& (2147483647 : Int32)) % (12 : Int32))), .val (.ref (own_r_flagAt A ((p0 &&& (2147483647 : Int32)) % (12 : Int32)))), .val (.int (own_r_bitAt A ((p0 &&& (2147483647 : Int32)) % (12 : Int32)))), .unset] [(.int (XT.ushr p1 (own_r_bitAt A ((p0 &&& (2147483647 : Int32)) % (12 : Int32)))))]))
  refine own_by (fun _ zz => XS.iconst X2.here hx rfl (hb hby at_23) zz) ?_
  show own_Goes p e below _ (T2.setTop (mkF m 24 #[.val (.int p0), .val (.int p1), .val (.int ((p0 &&& (2147483647 : Int32)) % (12 : Int32))), .val (.ref (own_r_flagAt A ((p0 &&& (2147483647 : Int32)) % (12 : Int32)))), .val (.int (own_r_bitAt A ((p0 &&& (2147483647 : Int32)) % (12 : Int32)))), .unset] [(.int (1 : Int32)), (.int (XT.ushr p1 (own_r_bitAt A ((p0 &&& (2147483647 : Int32)) % (12 : Int32)))))]))
  refine own_by (fun _ zz => XS.iand X2.here hx rfl (hb hby at_24) rfl zz) ?_
  show own_Goes p e below _ (T2.setTop (mkF m 25 #[.val (.int p0), .val (.int p1), .val (.int ((p0 &&& (2147483647 : Int32)) % (12 : Int32))), .val (.ref (own_r_flagAt A ((p0 &&& (2147483647 : Int32)) % (12 : Int32)))), .val (.int (own_r_bitAt A ((p0 &&& (2147483647 : Int32)) % (12 : Int32)))), .unset] [(.int ((XT.ushr p1 (own_r_bitAt A ((p0 &&& (2147483647 : Int32)) % (12 : Int32)))) &&& (1 : Int32)))]))
  by_cases q3 : ((XT.ushr p1 (own_r_bitAt A ((p0 &&& (2147483647 : Int32)) % (12 : Int32)))) &&& (1 : Int32)) = 0
  · refine own_by (fun _ zz => XS.ifYes X2.here hx rfl (pc0 := 25) (pc' := 32) rfl (hb hby at_25) rfl (XT.i0_eq_t q3) (by decide) (by decide) zz) ?_
    show own_Goes p e below _ (T2.setTop (mkF m 32 #[.val (.int p0), .val (.int p1), .val (.int ((p0 &&& (2147483647 : Int32)) % (12 : Int32))), .val (.ref (own_r_flagAt A ((p0 &&& (2147483647 : Int32)) % (12 : Int32)))), .val (.int (own_r_bitAt A ((p0 &&& (2147483647 : Int32)) % (12 : Int32)))), .unset] []))
    refine own_by (fun _ zz => XS.iconst X2.here hx rfl (hb hby at_32) zz) ?_
    show own_Goes p e below _ (T2.setTop (mkF m 33 #[.val (.int p0), .val (.int p1), .val (.int ((p0 &&& (2147483647 : Int32)) % (12 : Int32))), .val (.ref (own_r_flagAt A ((p0 &&& (2147483647 : Int32)) % (12 : Int32)))), .val (.int (own_r_bitAt A ((p0 &&& (2147483647 : Int32)) % (12 : Int32)))), .unset] [(.int (0 : Int32))]))
    refine own_by (fun _ zz => XS.istore X2.here hx rfl (hb hby at_33) rfl (l' := #[.val (.int p0), .val (.int p1), .val (.int ((p0 &&& (2147483647 : Int32)) % (12 : Int32))), .val (.ref (own_r_flagAt A ((p0 &&& (2147483647 : Int32)) % (12 : Int32)))), .val (.int (own_r_bitAt A ((p0 &&& (2147483647 : Int32)) % (12 : Int32)))), .val (.int (0 : Int32))]) rfl zz) ?_
    show own_Goes p e below _ (T2.setTop (mkF m 35 #[.val (.int p0), .val (.int p1), .val (.int ((p0 &&& (2147483647 : Int32)) % (12 : Int32))), .val (.ref (own_r_flagAt A ((p0 &&& (2147483647 : Int32)) % (12 : Int32)))), .val (.int (own_r_bitAt A ((p0 &&& (2147483647 : Int32)) % (12 : Int32)))), .val (.int (0 : Int32))] []))
    refine own_by (fun _ zz => XS.aloadN X2.here hx rfl (hb hby at_35) rfl rfl zz) ?_
    show own_Goes p e below _ (T2.setTop (mkF m 36 #[.val (.int p0), .val (.int p1), .val (.int ((p0 &&& (2147483647 : Int32)) % (12 : Int32))), .val (.ref (own_r_flagAt A ((p0 &&& (2147483647 : Int32)) % (12 : Int32)))), .val (.int (own_r_bitAt A ((p0 &&& (2147483647 : Int32)) % (12 : Int32)))), .val (.int (0 : Int32))] [(.ref (own_r_flagAt A ((p0 &&& (2147483647 : Int32)) % (12 : Int32))))]))
    refine own_callV0 X2 hx hZ (W := 0) (K := "com/example/kittiwake/kittiwake/IntentFlag") (argsL := []) (rest := []) hown (own_w11 hw) (own_w12 hw) (own_w14 hw) (own_w13 hw) (own_w15 hw) (own_w6 hw) (by decide) e2 FL.1 (rm_value l hw W (own_r_flagAt A ((p0 &&& (2147483647 : Int32)) % (12 : Int32))) ((1 : Int32) <<< ((own_r_bitAt A ((p0 &&& (2147483647 : Int32)) % (12 : Int32))) &&& 31)) FL.2) (by decide) (by decide) (by decide) (by decide) (by rw [hml]; rfl) (lenOf own_pd2 rfl) rfl (Nat.le_of_ble_eq_true rfl) (hb hby at_36) fun T4 X4 e4 => ?_
    show own_Goes p e below _ (T4.setTop (mkF m 39 #[.val (.int p0), .val (.int p1), .val (.int ((p0 &&& (2147483647 : Int32)) % (12 : Int32))), .val (.ref (own_r_flagAt A ((p0 &&& (2147483647 : Int32)) % (12 : Int32)))), .val (.int (own_r_bitAt A ((p0 &&& (2147483647 : Int32)) % (12 : Int32)))), .val (.int (0 : Int32))] [(.int (own_r_value A (own_r_flagAt A ((p0 &&& (2147483647 : Int32)) % (12 : Int32))) ((1 : Int32) <<< ((own_r_bitAt A ((p0 &&& (2147483647 : Int32)) % (12 : Int32))) &&& 31))))]))
    refine own_by (fun _ zz => XS.iconst X4.here hx rfl (hb hby at_39) zz) ?_
    show own_Goes p e below _ (T4.setTop (mkF m 40 #[.val (.int p0), .val (.int p1), .val (.int ((p0 &&& (2147483647 : Int32)) % (12 : Int32))), .val (.ref (own_r_flagAt A ((p0 &&& (2147483647 : Int32)) % (12 : Int32)))), .val (.int (own_r_bitAt A ((p0 &&& (2147483647 : Int32)) % (12 : Int32)))), .val (.int (0 : Int32))] [(.int (1 : Int32)), (.int (own_r_value A (own_r_flagAt A ((p0 &&& (2147483647 : Int32)) % (12 : Int32))) ((1 : Int32) <<< ((own_r_bitAt A ((p0 &&& (2147483647 : Int32)) % (12 : Int32))) &&& 31))))]))
    refine own_by (fun _ zz => XS.iload X4.here hx rfl (hb hby at_40) rfl zz) ?_
    show own_Goes p e below _ (T4.setTop (mkF m 42 #[.val (.int p0), .val (.int p1), .val (.int ((p0 &&& (2147483647 : Int32)) % (12 : Int32))), .val (.ref (own_r_flagAt A ((p0 &&& (2147483647 : Int32)) % (12 : Int32)))), .val (.int (own_r_bitAt A ((p0 &&& (2147483647 : Int32)) % (12 : Int32)))), .val (.int (0 : Int32))] [(.int (own_r_bitAt A ((p0 &&& (2147483647 : Int32)) % (12 : Int32)))), (.int (1 : Int32)), (.int (own_r_value A (own_r_flagAt A ((p0 &&& (2147483647 : Int32)) % (12 : Int32))) ((1 : Int32) <<< ((own_r_bitAt A ((p0 &&& (2147483647 : Int32)) % (12 : Int32))) &&& 31))))]))
    refine own_by (fun _ zz => XT.ishl X4.here hx rfl (hb hby at_42) rfl zz) ?_
    show own_Goes p e below _ (T4.setTop (mkF m 43 #[.val (.int p0), .val (.int p1), .val (.int ((p0 &&& (2147483647 : Int32)) % (12 : Int32))), .val (.ref (own_r_flagAt A ((p0 &&& (2147483647 : Int32)) % (12 : Int32)))), .val (.int (own_r_bitAt A ((p0 &&& (2147483647 : Int32)) % (12 : Int32)))), .val (.int (0 : Int32))] [(.int ((1 : Int32) <<< ((own_r_bitAt A ((p0 &&& (2147483647 : Int32)) % (12 : Int32))) &&& 31))), (.int (own_r_value A (own_r_flagAt A ((p0 &&& (2147483647 : Int32)) % (12 : Int32))) ((1 : Int32) <<< ((own_r_bitAt A ((p0 &&& (2147483647 : Int32)) % (12 : Int32))) &&& 31))))]))
    refine own_by (fun _ zz => XS.icmpYes X4.here hx rfl (pc0 := 43) (pc' := 48) rfl (hb hby at_43) rfl (XT.ii_eq_t (by unfold own_r_value; rfl)) (by decide) (by decide) zz) ?_
    show own_Goes p e below _ (T4.setTop (mkF m 48 #[.val (.int p0), .val (.int p1), .val (.int ((p0 &&& (2147483647 : Int32)) % (12 : Int32))), .val (.ref (own_r_flagAt A ((p0 &&& (2147483647 : Int32)) % (12 : Int32)))), .val (.int (own_r_bitAt A ((p0 &&& (2147483647 : Int32)) % (12 : Int32)))), .val (.int (0 : Int32))] []))
    refine own_by (fun _ zz => XS.aloadN X4.here hx rfl (hb hby at_48) rfl rfl zz) ?_
    show own_Goes p e below _ (T4.setTop (mkF m 49 #[.val (.int p0), .val (.int p1), .val (.int ((p0 &&& (2147483647 : Int32)) % (12 : Int32))), .val (.ref (own_r_flagAt A ((p0 &&& (2147483647 : Int32)) % (12 : Int32)))), .val (.int (own_r_bitAt A ((p0 &&& (2147483647 : Int32)) % (12 : Int32)))), .val (.int (0 : Int32))] [(.ref (own_r_flagAt A ((p0 &&& (2147483647 : Int32)) % (12 : Int32))))]))
    refine own_by (fun _ zz => XS.iloadN X4.here hx rfl (hb hby at_49) rfl zz) ?_
    show own_Goes p e below _ (T4.setTop (mkF m 50 #[.val (.int p0), .val (.int p1), .val (.int ((p0 &&& (2147483647 : Int32)) % (12 : Int32))), .val (.ref (own_r_flagAt A ((p0 &&& (2147483647 : Int32)) % (12 : Int32)))), .val (.int (own_r_bitAt A ((p0 &&& (2147483647 : Int32)) % (12 : Int32)))), .val (.int (0 : Int32))] [(.int p1), (.ref (own_r_flagAt A ((p0 &&& (2147483647 : Int32)) % (12 : Int32))))]))
    refine own_callV0 X4 hx hZ (W := 0) (K := "com/example/kittiwake/kittiwake/IntentFlag") (argsL := [(.int p1)]) (rest := []) hown (own_w18 hw) (own_w19 hw) (own_w21 hw) (own_w20 hw) (own_w22 hw) (own_w6 hw) (by decide) e4 FL.1 (rm_isSetIn l hw W (own_r_flagAt A ((p0 &&& (2147483647 : Int32)) % (12 : Int32))) ((1 : Int32) <<< ((own_r_bitAt A ((p0 &&& (2147483647 : Int32)) % (12 : Int32))) &&& 31)) p1 FL.2) (by decide) (by decide) (by decide) (by decide) (by rw [hml]; rfl) (lenOf own_pd3 rfl) rfl (Nat.le_of_ble_eq_true rfl) (hb hby at_50) fun T5 X5 e5 => ?_
    show own_Goes p e below _ (T5.setTop (mkF m 53 #[.val (.int p0), .val (.int p1), .val (.int ((p0 &&& (2147483647 : Int32)) % (12 : Int32))), .val (.ref (own_r_flagAt A ((p0 &&& (2147483647 : Int32)) % (12 : Int32)))), .val (.int (own_r_bitAt A ((p0 &&& (2147483647 : Int32)) % (12 : Int32)))), .val (.int (0 : Int32))] [(.int (own_r_isSetIn A (own_r_flagAt A ((p0 &&& (2147483647 : Int32)) % (12 : Int32))) ((1 : Int32) <<< ((own_r_bitAt A ((p0 &&& (2147483647 : Int32)) % (12 : Int32))) &&& 31)) p1))]))
    refine own_by (fun _ zz => XS.iload X5.here hx rfl (hb hby at_53) rfl zz) ?_
    show own_Goes p e below _ (T5.setTop (mkF m 55 #[.val (.int p0), .val (.int p1), .val (.int ((p0 &&& (2147483647 : Int32)) % (12 : Int32))), .val (.ref (own_r_flagAt A ((p0 &&& (2147483647 : Int32)) % (12 : Int32)))), .val (.int (own_r_bitAt A ((p0 &&& (2147483647 : Int32)) % (12 : Int32)))), .val (.int (0 : Int32))] [(.int (0 : Int32)), (.int (own_r_isSetIn A (own_r_flagAt A ((p0 &&& (2147483647 : Int32)) % (12 : Int32))) ((1 : Int32) <<< ((own_r_bitAt A ((p0 &&& (2147483647 : Int32)) % (12 : Int32))) &&& 31)) p1))]))
    refine own_by (fun _ zz => XS.icmpNo X5.here hx rfl (hb hby at_55) rfl (XT.ii_ne_f (by unfold own_r_isSetIn; rw [if_pos ((own_bit A p1 KK).mp q3)])) zz) ?_
    show own_Goes p e below _ (T5.setTop (mkF m 58 #[.val (.int p0), .val (.int p1), .val (.int ((p0 &&& (2147483647 : Int32)) % (12 : Int32))), .val (.ref (own_r_flagAt A ((p0 &&& (2147483647 : Int32)) % (12 : Int32)))), .val (.int (own_r_bitAt A ((p0 &&& (2147483647 : Int32)) % (12 : Int32)))), .val (.int (0 : Int32))] []))
    refine own_by (fun _ zz => XS.iconst X5.here hx rfl (hb hby at_58) zz) ?_
    show own_Goes p e below _ (T5.setTop (mkF m 59 #[.val (.int p0), .val (.int p1), .val (.int ((p0 &&& (2147483647 : Int32)) % (12 : Int32))), .val (.ref (own_r_flagAt A ((p0 &&& (2147483647 : Int32)) % (12 : Int32)))), .val (.int (own_r_bitAt A ((p0 &&& (2147483647 : Int32)) % (12 : Int32)))), .val (.int (0 : Int32))] [(.int (1 : Int32))]))
    refine own_by (fun _ zz => XS.goto X5.here hx rfl (pc0 := 59) (pc' := 63) rfl (hb hby at_59) (by decide) (by decide) zz) ?_
    show own_Goes p e below _ (T5.setTop (mkF m 63 #[.val (.int p0), .val (.int p1), .val (.int ((p0 &&& (2147483647 : Int32)) % (12 : Int32))), .val (.ref (own_r_flagAt A ((p0 &&& (2147483647 : Int32)) % (12 : Int32)))), .val (.int (own_r_bitAt A ((p0 &&& (2147483647 : Int32)) % (12 : Int32)))), .val (.int (0 : Int32))] [(.int (1 : Int32))]))
    refine own_retN X5 hx hlk (ty := .boolean) hret (by simp) (hb hby at_63) (by decide) (by decide) ?_
    exact ⟨rfl, rfl⟩
  · refine own_by (fun _ zz => XS.ifNo X2.here hx rfl (hb hby at_25) rfl (XT.i0_eq_f q3) zz) ?_
    show own_Goes p e below _ (T2.setTop (mkF m 28 #[.val (.int p0), .val (.int p1), .val (.int ((p0 &&& (2147483647 : Int32)) % (12 : Int32))), .val (.ref (own_r_flagAt A ((p0 &&& (2147483647 : Int32)) % (12 : Int32)))), .val (.int (own_r_bitAt A ((p0 &&& (2147483647 : Int32)) % (12 : Int32)))), .unset] []))
    refine own_by (fun _ zz => XS.iconst X2.here hx rfl (hb hby at_28) zz) ?_
    show own_Goes p e below _ (T2.setTop (mkF m 29 #[.val (.int p0), .val (.int p1), .val (.int ((p0 &&& (2147483647 : Int32)) % (12 : Int32))), .val (.ref (own_r_flagAt A ((p0 &&& (2147483647 : Int32)) % (12 : Int32)))), .val (.int (own_r_bitAt A ((p0 &&& (2147483647 : Int32)) % (12 : Int32)))), .unset] [(.int (1 : Int32))]))
    refine own_by (fun _ zz => XS.goto X2.here hx rfl (pc0 := 29) (pc' := 33) rfl (hb hby at_29) (by decide) (by decide) zz) ?_
    show own_Goes p e below _ (T2.setTop (mkF m 33 #[.val (.int p0), .val (.int p1), .val (.int ((p0 &&& (2147483647 : Int32)) % (12 : Int32))), .val (.ref (own_r_flagAt A ((p0 &&& (2147483647 : Int32)) % (12 : Int32)))), .val (.int (own_r_bitAt A ((p0 &&& (2147483647 : Int32)) % (12 : Int32)))), .unset] [(.int (1 : Int32))]))
    refine own_by (fun _ zz => XS.istore X2.here hx rfl (hb hby at_33) rfl (l' := #[.val (.int p0), .val (.int p1), .val (.int ((p0 &&& (2147483647 : Int32)) % (12 : Int32))), .val (.ref (own_r_flagAt A ((p0 &&& (2147483647 : Int32)) % (12 : Int32)))), .val (.int (own_r_bitAt A ((p0 &&& (2147483647 : Int32)) % (12 : Int32)))), .val (.int (1 : Int32))]) rfl zz) ?_
    show own_Goes p e below _ (T2.setTop (mkF m 35 #[.val (.int p0), .val (.int p1), .val (.int ((p0 &&& (2147483647 : Int32)) % (12 : Int32))), .val (.ref (own_r_flagAt A ((p0 &&& (2147483647 : Int32)) % (12 : Int32)))), .val (.int (own_r_bitAt A ((p0 &&& (2147483647 : Int32)) % (12 : Int32)))), .val (.int (1 : Int32))] []))
    refine own_by (fun _ zz => XS.aloadN X2.here hx rfl (hb hby at_35) rfl rfl zz) ?_
    show own_Goes p e below _ (T2.setTop (mkF m 36 #[.val (.int p0), .val (.int p1), .val (.int ((p0 &&& (2147483647 : Int32)) % (12 : Int32))), .val (.ref (own_r_flagAt A ((p0 &&& (2147483647 : Int32)) % (12 : Int32)))), .val (.int (own_r_bitAt A ((p0 &&& (2147483647 : Int32)) % (12 : Int32)))), .val (.int (1 : Int32))] [(.ref (own_r_flagAt A ((p0 &&& (2147483647 : Int32)) % (12 : Int32))))]))
    refine own_callV0 X2 hx hZ (W := 0) (K := "com/example/kittiwake/kittiwake/IntentFlag") (argsL := []) (rest := []) hown (own_w11 hw) (own_w12 hw) (own_w14 hw) (own_w13 hw) (own_w15 hw) (own_w6 hw) (by decide) e2 FL.1 (rm_value l hw W (own_r_flagAt A ((p0 &&& (2147483647 : Int32)) % (12 : Int32))) ((1 : Int32) <<< ((own_r_bitAt A ((p0 &&& (2147483647 : Int32)) % (12 : Int32))) &&& 31)) FL.2) (by decide) (by decide) (by decide) (by decide) (by rw [hml]; rfl) (lenOf own_pd2 rfl) rfl (Nat.le_of_ble_eq_true rfl) (hb hby at_36) fun T6 X6 e6 => ?_
    show own_Goes p e below _ (T6.setTop (mkF m 39 #[.val (.int p0), .val (.int p1), .val (.int ((p0 &&& (2147483647 : Int32)) % (12 : Int32))), .val (.ref (own_r_flagAt A ((p0 &&& (2147483647 : Int32)) % (12 : Int32)))), .val (.int (own_r_bitAt A ((p0 &&& (2147483647 : Int32)) % (12 : Int32)))), .val (.int (1 : Int32))] [(.int (own_r_value A (own_r_flagAt A ((p0 &&& (2147483647 : Int32)) % (12 : Int32))) ((1 : Int32) <<< ((own_r_bitAt A ((p0 &&& (2147483647 : Int32)) % (12 : Int32))) &&& 31))))]))
    refine own_by (fun _ zz => XS.iconst X6.here hx rfl (hb hby at_39) zz) ?_
    show own_Goes p e below _ (T6.setTop (mkF m 40 #[.val (.int p0), .val (.int p1), .val (.int ((p0 &&& (2147483647 : Int32)) % (12 : Int32))), .val (.ref (own_r_flagAt A ((p0 &&& (2147483647 : Int32)) % (12 : Int32)))), .val (.int (own_r_bitAt A ((p0 &&& (2147483647 : Int32)) % (12 : Int32)))), .val (.int (1 : Int32))] [(.int (1 : Int32)), (.int (own_r_value A (own_r_flagAt A ((p0 &&& (2147483647 : Int32)) % (12 : Int32))) ((1 : Int32) <<< ((own_r_bitAt A ((p0 &&& (2147483647 : Int32)) % (12 : Int32))) &&& 31))))]))
    refine own_by (fun _ zz => XS.iload X6.here hx rfl (hb hby at_40) rfl zz) ?_
    show own_Goes p e below _ (T6.setTop (mkF m 42 #[.val (.int p0), .val (.int p1), .val (.int ((p0 &&& (2147483647 : Int32)) % (12 : Int32))), .val (.ref (own_r_flagAt A ((p0 &&& (2147483647 : Int32)) % (12 : Int32)))), .val (.int (own_r_bitAt A ((p0 &&& (2147483647 : Int32)) % (12 : Int32)))), .val (.int (1 : Int32))] [(.int (own_r_bitAt A ((p0 &&& (2147483647 : Int32)) % (12 : Int32)))), (.int (1 : Int32)), (.int (own_r_value A (own_r_flagAt A ((p0 &&& (2147483647 : Int32)) % (12 : Int32))) ((1 : Int32) <<< ((own_r_bitAt A ((p0 &&& (2147483647 : Int32)) % (12 : Int32))) &&& 31))))]))
    refine own_by (fun _ zz => XT.ishl X6.here hx rfl (hb hby at_42) rfl zz) ?_
    show own_Goes p e below _ (T6.setTop (mkF m 43 #[.val (.int p0), .val (.int p1), .val (.int ((p0 &&& (2147483647 : Int32)) % (12 : Int32))), .val (.ref (own_r_flagAt A ((p0 &&& (2147483647 : Int32)) % (12 : Int32)))), .val (.int (own_r_bitAt A ((p0 &&& (2147483647 : Int32)) % (12 : Int32)))), .val (.int (1 : Int32))] [(.int ((1 : Int32) <<< ((own_r_bitAt A ((p0 &&& (2147483647 : Int32)) % (12 : Int32))) &&& 31))), (.int (own_r_value A (own_r_flagAt A ((p0 &&& (2147483647 : Int32)) % (12 : Int32))) ((1 : Int32) <<< ((own_r_bitAt A ((p0 &&& (2147483647 : Int32)) % (12 : Int32))) &&& 31))))]))
    refine own_by (fun _ zz => XS.icmpYes X6.here hx rfl (pc0 := 43) (pc' := 48) rfl (hb hby at_43) rfl (XT.ii_eq_t (by unfold own_r_value; rfl)) (by decide) (by decide) zz) ?_
    show own_Goes p e below _ (T6.setTop (mkF m 48 #[.val (.int p0), .val (.int p1), .val (.int ((p0 &&& (2147483647 : Int32)) % (12 : Int32))), .val (.ref (own_r_flagAt A ((p0 &&& (2147483647 : Int32)) % (12 : Int32)))), .val (.int (own_r_bitAt A ((p0 &&& (2147483647 : Int32)) % (12 : Int32)))), .val (.int (1 : Int32))] []))
    refine own_by (fun _ zz => XS.aloadN X6.here hx rfl (hb hby at_48) rfl rfl zz) ?_
    show own_Goes p e below _ (T6.setTop (mkF m 49 #[.val (.int p0), .val (.int p1), .val (.int ((p0 &&& (2147483647 : Int32)) % (12 : Int32))), .val (.ref (own_r_flagAt A ((p0 &&& (2147483647 : Int32)) % (12 : Int32)))), .val (.int (own_r_bitAt A ((p0 &&& (2147483647 : Int32)) % (12 : Int32)))), .val (.int (1 : Int32))] [(.ref (own_r_flagAt A ((p0 &&& (2147483647 : Int32)) % (12 : Int32))))]))
    refine own_by (fun _ zz => XS.iloadN X6.here hx rfl (hb hby at_49) rfl zz) ?_
    show own_Goes p e below _ (T6.setTop (mkF m 50 #[.val (.int p0), .val (.int p1), .val (.int ((p0 &&& (2147483647 : Int32)) % (12 : Int32))), .val (.ref (own_r_flagAt A ((p0 &&& (2147483647 : Int32)) % (12 : Int32)))), .val (.int (own_r_bitAt A ((p0 &&& (2147483647 : Int32)) % (12 : Int32)))), .val (.int (1 : Int32))] [(.int p1), (.ref (own_r_flagAt A ((p0 &&& (2147483647 : Int32)) % (12 : Int32))))]))
    refine own_callV0 X6 hx hZ (W := 0) (K := "com/example/kittiwake/kittiwake/IntentFlag") (argsL := [(.int p1)]) (rest := []) hown (own_w18 hw) (own_w19 hw) (own_w21 hw) (own_w20 hw) (own_w22 hw) (own_w6 hw) (by decide) e6 FL.1 (rm_isSetIn l hw W (own_r_flagAt A ((p0 &&& (2147483647 : Int32)) % (12 : Int32))) ((1 : Int32) <<< ((own_r_bitAt A ((p0 &&& (2147483647 : Int32)) % (12 : Int32))) &&& 31)) p1 FL.2) (by decide) (by decide) (by decide) (by decide) (by rw [hml]; rfl) (lenOf own_pd3 rfl) rfl (Nat.le_of_ble_eq_true rfl) (hb hby at_50) fun T7 X7 e7 => ?_
    show own_Goes p e below _ (T7.setTop (mkF m 53 #[.val (.int p0), .val (.int p1), .val (.int ((p0 &&& (2147483647 : Int32)) % (12 : Int32))), .val (.ref (own_r_flagAt A ((p0 &&& (2147483647 : Int32)) % (12 : Int32)))), .val (.int (own_r_bitAt A ((p0 &&& (2147483647 : Int32)) % (12 : Int32)))), .val (.int (1 : Int32))] [(.int (own_r_isSetIn A (own_r_flagAt A ((p0 &&& (2147483647 : Int32)) % (12 : Int32))) ((1 : Int32) <<< ((own_r_bitAt A ((p0 &&& (2147483647 : Int32)) % (12 : Int32))) &&& 31)) p1))]))
    refine own_by (fun _ zz => XS.iload X7.here hx rfl (hb hby at_53) rfl zz) ?_
    show own_Goes p e below _ (T7.setTop (mkF m 55 #[.val (.int p0), .val (.int p1), .val (.int ((p0 &&& (2147483647 : Int32)) % (12 : Int32))), .val (.ref (own_r_flagAt A ((p0 &&& (2147483647 : Int32)) % (12 : Int32)))), .val (.int (own_r_bitAt A ((p0 &&& (2147483647 : Int32)) % (12 : Int32)))), .val (.int (1 : Int32))] [(.int (1 : Int32)), (.int (own_r_isSetIn A (own_r_flagAt A ((p0 &&& (2147483647 : Int32)) % (12 : Int32))) ((1 : Int32) <<< ((own_r_bitAt A ((p0 &&& (2147483647 : Int32)) % (12 : Int32))) &&& 31)) p1))]))
    refine own_by (fun _ zz => XS.icmpNo X7.here hx rfl (hb hby at_55) rfl (XT.ii_ne_f (by unfold own_r_isSetIn; rw [if_neg (fun z => q3 ((own_bit A p1 KK).mpr z))])) zz) ?_
    show own_Goes p e below _ (T7.setTop (mkF m 58 #[.val (.int p0), .val (.int p1), .val (.int ((p0 &&& (2147483647 : Int32)) % (12 : Int32))), .val (.ref (own_r_flagAt A ((p0 &&& (2147483647 : Int32)) % (12 : Int32)))), .val (.int (own_r_bitAt A ((p0 &&& (2147483647 : Int32)) % (12 : Int32)))), .val (.int (1 : Int32))] []))
    refine own_by (fun _ zz => XS.iconst X7.here hx rfl (hb hby at_58) zz) ?_
    show own_Goes p e below _ (T7.setTop (mkF m 59 #[.val (.int p0), .val (.int p1), .val (.int ((p0 &&& (2147483647 : Int32)) % (12 : Int32))), .val (.ref (own_r_flagAt A ((p0 &&& (2147483647 : Int32)) % (12 : Int32)))), .val (.int (own_r_bitAt A ((p0 &&& (2147483647 : Int32)) % (12 : Int32)))), .val (.int (1 : Int32))] [(.int (1 : Int32))]))
    refine own_by (fun _ zz => XS.goto X7.here hx rfl (pc0 := 59) (pc' := 63) rfl (hb hby at_59) (by decide) (by decide) zz) ?_
    show own_Goes p e below _ (T7.setTop (mkF m 63 #[.val (.int p0), .val (.int p1), .val (.int ((p0 &&& (2147483647 : Int32)) % (12 : Int32))), .val (.ref (own_r_flagAt A ((p0 &&& (2147483647 : Int32)) % (12 : Int32)))), .val (.int (own_r_bitAt A ((p0 &&& (2147483647 : Int32)) % (12 : Int32)))), .val (.int (1 : Int32))] [(.int (1 : Int32))]))
    refine own_retN X7 hx hlk (ty := .boolean) hret (by simp) (hb hby at_63) (by decide) (by decide) ?_
    exact ⟨rfl, rfl⟩
set_option maxRecDepth 65536 in
set_option maxHeartbeats 40000000 in
theorem comes_1 {Post : Tables → Env → Array Value → State → Outcome → State → Prop} (hpost : ∀ tb e args s v u, (limb_1_1.after args s (.returned v) u = true ∧ limb_1_2.after args s (.returned v) u = true ∧ True) → FrameEnd s (.returned v) u (Jvm.fieldLocs frame_1_writes args s ++ Jvm.arrayLocs frame_1_arrays args s ++ Jvm.staticLocs frame_1_statics s) 0 0 → Post tb e args s (.returned v) u) :
    ArmFor flags0 classFile x code maxLocals ret World_1 tables_1 room_1 Calls_1 rest_1 Pre_1 Post := by
  intro l hfl _ _ p e ha hc hk s m args below hf hA hF happ hP
  obtain ⟨hcalls, hrest, hpre⟩ := hP
  obtain ⟨-, -, -, hnamed, -, -, -, hat⟩ := (Spec.applies_iff hf).mp happ
  obtain ⟨hg, hn⟩ := and_e (Cond.before_iff.mp (show (Jvm.Cond.and given_1 narrow_1).before args s = true from hpre))
  obtain ⟨g0, hg0⟩ := and_e hg
  obtain ⟨i0, hg1⟩ := and_e hg0
  obtain ⟨w0, w1, rfl⟩ : ∃ w0 w1 : Value, args = #[w0, w1] := by
    have hs : args.size = 2 := by simpa [Cond.value, given_1] using g0
    obtain ⟨L⟩ := args
    match L, hs with
    | [w0, w1], _ => exact ⟨w0, w1, rfl⟩
  have hw := fun d (hd : d ∈ tables_1) => atoms_spec (ws := Jvm.Cond.code x code maxLocals ret :: tables_1) hat d (List.mem_cons_of_mem _ hd)
  obtain ⟨j0, y0⟩ := is_v i0
  obtain rfl : w0 = (.int j0) := Option.some.inj y0
  obtain ⟨j1, y1⟩ := is_v hg1
  obtain rfl : w1 = (.int j1) := Option.some.inj y1
  obtain ⟨A, W⟩ := own_world hw hn
  obtain ⟨n, o, h1, h2, h3, _, L, rfl, ⟨rfl, rfl⟩, hq⟩ := rm_law l hw tables_1 W j0 j1 p e ha hc hk s m _ below hf ((Spec.applies_iff_loose hf).mp happ).1 ⟨rfl, State.Warmed39.refl s, rfl⟩ trivial
  refine ⟨n, _, h1, h2, h3, hpost _ _ _ _ _ _ ⟨Cond.after_iff.mpr rfl, Cond.after_iff.mpr (eq_i res_at (Term.int_eval (1)) rfl), trivial⟩ ⟨hq.1, hq.2.1, (hq.2.2.sift fun y hy => nomatch hy).mono (by decide) (by decide)⟩⟩
theorem main_1_1 : Claimed_1_1 := comes_1 fun _ _ _ _ _ _ h hF => ⟨h.1, hF⟩
theorem main_1_2 : Claimed_1_2 := comes_1 fun _ _ _ _ _ _ h hF => ⟨h.2.1, hF⟩
end Jvm.Pilot.@@N@@
namespace Jvm.Pilot.@@N@@
open Jvm Jvm.ClassFile Sem Op Lib Jvm.Free Jvm.Stand Jvm.Pilot.@@N@@.Jvm.D
/-! MADE BY PROGRAM (witnessworld.py) out of the Statement's table words and the real class files: 12 classes; the members and pool entries that the words name. The judged class is class 1, her method 3. -/
namespace start1
open Jvm.ClassFile
def u (s : String) : CpInfo := .utf8 (stringToUtf16 s)
/-- a pool by its gaps: so many unusable entries, then the entry; so many at the end -/
def gap : Nat → List CpInfo → List CpInfo
  | 0, r => r
  | n + 1, r => .unusable :: gap n r
def poolList (es : List (Nat × CpInfo)) (last : Nat) : List CpInfo := es.foldr (fun e r => gap e.1 (e.2 :: r)) (gap last [])
def pool (es : List (Nat × CpInfo)) (last : Nat) : Array CpInfo := ⟨poolList es last⟩
def fileOf (pool : Array CpInfo) (this : Nat) (attrs : Array Attribute := #[]) (ms : Array MethodInfo := #[]) (fl : Nat := 33) (sup : Nat := 0) (ifs : Array Nat := #[]) (fds : Array FieldInfo := #[]) : ClassFile where
  minorVersion := 0
  majorVersion := 65
  constantPool := pool
  accessFlags := fl
  thisClass := this
  superClass := sup
  interfaces := ifs
  fields := fds
  methods := ms
  attributes := attrs
def plain (name : String) (sup : Option ClassId) : Class where
  name := name
  kind := .ordinary
  loader := none
  accessFlags := 33
  super := sup
  interfaces := #[]
  cf := none
  fields := #[]
  methods := #[]
  instanceTypes := #[]
  staticTypes := #[]
  resolved := #[]
  callSites := []
  init := .initialized
  statics := none
  mirror := none

def pool0 : Array CpInfo := pool [(5, u "<init>"), (0, u "()V"), (1, .class_ 10), (1, u "java/lang/Object")] 113

def k0m0 : Method := { name := "<init>", desc := "()V", sig := { parameters := [], returnType := none }, accessFlags := 1, code := none }
/-- java/lang/Object -/
def k0 : Class := { plain "java/lang/Object" none with
  accessFlags := 33
  interfaces := #[]
  cf := some (fileOf pool0 8 #[] #[{ accessFlags := 1, nameIndex := 5, descriptorIndex := 6, attributes := #[] }] 33 0 #[] #[])
  fields := #[]
  methods := #[k0m0]
  instanceTypes := #[]
  staticTypes := #[]
  resolved := Array.replicate 124 none
  statics := none }

def pool1 : Array CpInfo := pool [(2, .class_ 4), (1, u "java/lang/Object"), (0, u "<init>"), (0, u "()V"), (0, .fieldref 8 9), (0, .class_ 10), (0, .nameAndType 11 12), (0, u "com/example/kittiwake/kittiwake/IntentFlag"), (0, u "NEW_TASK"), (0, u "Lcom/example/kittiwake/kittiwake/IntentFlag;"), (0, .fieldref 8 14), (0, .nameAndType 15 12), (0, u "TASK_ON_HOME"), (0, .fieldref 8 17), (0, .nameAndType 18 12), (0, u "CLEAR_TASK"), (0, .fieldref 8 20), (0, .nameAndType 21 12), (0, u "MULTIPLE_TASK"), (0, .fieldref 8 23), (0, .nameAndType 24 12), (0, u "NEW_DOCUMENT"), (0, .fieldref 8 26), (0, .nameAndType 27 12), (0, u "CLEAR_TOP"), (0, .fieldref 8 29), (0, .nameAndType 30 12), (0, u "SINGLE_TOP"), (0, .fieldref 8 32), (0, .nameAndType 33 12), (0, u "PREVIOUS_IS_TOP"), (0, .fieldref 8 35), (0, .nameAndType 36 12), (0, u "REORDER_TO_FRONT"), (0, .fieldref 8 38), (0, .nameAndType 39 12), (0, u "NO_HISTORY"), (0, .fieldref 8 41), (0, .nameAndType 42 12), (0, u "NO_USER_ACTION"), (0, .fieldref 8 44), (0, .nameAndType 45 12), (0, u "RESET_TASK_IF_NEEDED"), (0, .integer 2147483647), (0, .methodref 48 49), (0, .class_ 50), (0, .nameAndType 51 52), (0, u "com/example/kittiwake/kittiwake/IntentFlagIsSetInPinLaw"), (0, u "flagAt"), (0, u "(I)Lcom/example/kittiwake/kittiwake/IntentFlag;"), (0, .methodref 48 54), (0, .nameAndType 55 56), (0, u "bitAt"), (0, u "(I)I"), (0, .methodref 8 58), (0, .nameAndType 59 60), (0, u "value"), (0, u "()I"), (0, .methodref 8 62), (0, .nameAndType 63 64), (0, u "isSetIn"), (0, u "(I)Z"), (3, u "law"), (0, u "(II)Z")] 2

def k1m0 : Method := { name := "<init>", desc := "()V", sig := { parameters := [], returnType := none }, accessFlags := 2, code := none }
def k1c1 : Code := { maxStack := 2, maxLocals := 1, code := method_2_code, exceptionTable := #[], attributes := #[] }
def k1m1 : Method := { name := "flagAt", desc := "(I)Lcom/example/kittiwake/kittiwake/IntentFlag;", sig := { parameters := [.int], returnType := some (.object "com/example/kittiwake/kittiwake/IntentFlag") }, accessFlags := 10, code := some k1c1 }
def k1c2 : Code := { maxStack := 2, maxLocals := 1, code := method_3_code, exceptionTable := #[], attributes := #[] }
def k1m2 : Method := { name := "bitAt", desc := "(I)I", sig := { parameters := [.int], returnType := some .int }, accessFlags := 10, code := some k1c2 }
def k1c3 : Code := { maxStack := 3, maxLocals := 6, code := code, exceptionTable := #[], attributes := #[] }
def k1m3 : Method := { name := "law", desc := "(II)Z", sig := { parameters := [.int, .int], returnType := some .boolean }, accessFlags := 9, code := some k1c3 }
/-- com/example/kittiwake/kittiwake/IntentFlagIsSetInPinLaw -/
def k1 : Class := { plain "com/example/kittiwake/kittiwake/IntentFlagIsSetInPinLaw" (some 0) with
  accessFlags := 49
  interfaces := #[]
  cf := some (fileOf pool1 48 #[] #[{ accessFlags := 2, nameIndex := 5, descriptorIndex := 6, attributes := #[] }, { accessFlags := 10, nameIndex := 51, descriptorIndex := 52, attributes := #[] }, { accessFlags := 10, nameIndex := 55, descriptorIndex := 56, attributes := #[] }, { accessFlags := 9, nameIndex := 68, descriptorIndex := 69, attributes := #[] }] 49 2 #[] #[])
  fields := #[]
  methods := #[k1m0, k1m1, k1m2, k1m3]
  instanceTypes := #[]
  staticTypes := #[]
  resolved := Array.replicate 72 none
  statics := none }

def pool2 : Array CpInfo := pool [(1, .class_ 2), (0, u "java/lang/constant/Constable"), (0, .class_ 4), (0, u "java/lang/Object")] 6

/-- java/lang/constant/Constable -/
def k2 : Class := { plain "java/lang/constant/Constable" (some 0) with
  accessFlags := 1537
  interfaces := #[]
  cf := some (fileOf pool2 1 #[] #[] 1537 3 #[] #[])
  fields := #[]
  methods := #[]
  instanceTypes := #[]
  staticTypes := #[]
  resolved := Array.replicate 11 none
  statics := none }

def pool3 : Array CpInfo := pool [(1, .class_ 2), (0, u "java/lang/Comparable"), (0, .class_ 4), (0, u "java/lang/Object")] 7

/-- java/lang/Comparable -/
def k3 : Class := { plain "java/lang/Comparable" (some 0) with
  accessFlags := 1537
  interfaces := #[]
  cf := some (fileOf pool3 1 #[] #[] 1537 3 #[] #[])
  fields := #[]
  methods := #[]
  instanceTypes := #[]
  staticTypes := #[]
  resolved := Array.replicate 12 none
  statics := none }

def pool4 : Array CpInfo := pool [(1, .class_ 2), (0, u "java/io/Serializable"), (0, .class_ 4), (0, u "java/lang/Object")] 2

/-- java/io/Serializable -/
def k4 : Class := { plain "java/io/Serializable" (some 0) with
  accessFlags := 1537
  interfaces := #[]
  cf := some (fileOf pool4 1 #[] #[] 1537 3 #[] #[])
  fields := #[]
  methods := #[]
  instanceTypes := #[]
  staticTypes := #[]
  resolved := Array.replicate 7 none
  statics := none }

def pool5 : Array CpInfo := pool [(2, .class_ 4), (1, u "java/lang/Enum"), (0, u "name"), (0, u "Ljava/lang/String;"), (2, u "ordinal"), (0, u "I"), (1, .class_ 14), (1, u "java/lang/Object"), (4, u "hash"), (86, .class_ 108), (1, u "java/lang/Enum$EnumDesc"), (2, .class_ 112), (0, u "java/lang/constant/Constable"), (0, .class_ 114), (0, u "java/lang/Comparable"), (0, .class_ 116), (0, u "java/io/Serializable")] 87

/-- java/lang/Enum -/
def k5 : Class := { plain "java/lang/Enum" (some 0) with
  accessFlags := 1057
  interfaces := #[2, 3, 4]
  cf := some (fileOf pool5 2 #[.nestMembers #[106]] #[] 1057 12 #[111, 113, 115] #[{ accessFlags := 18, nameIndex := 5, descriptorIndex := 6, attributes := #[] }, { accessFlags := 18, nameIndex := 9, descriptorIndex := 10, attributes := #[] }, { accessFlags := 2, nameIndex := 19, descriptorIndex := 10, attributes := #[] }])
  fields := #[{ name := "name", type := (.object "java/lang/String"), accessFlags := 18, slot := 0, constantValue := 0 }, { name := "ordinal", type := .int, accessFlags := 18, slot := 1, constantValue := 0 }, { name := "hash", type := .int, accessFlags := 2, slot := 2, constantValue := 0 }]
  methods := #[]
  instanceTypes := #[(.object "java/lang/String"), .int, .int]
  staticTypes := #[]
  resolved := Array.replicate 204 none
  statics := none }

def pool6 : Array CpInfo := pool [(1, .class_ 2), (0, u "com/example/kittiwake/kittiwake/IntentFlag"), (2, u "NEW_TASK"), (0, u "Lcom/example/kittiwake/kittiwake/IntentFlag;"), (2, u "TASK_ON_HOME"), (2, u "CLEAR_TASK"), (2, u "MULTIPLE_TASK"), (2, u "NEW_DOCUMENT"), (2, u "CLEAR_TOP"), (2, u "SINGLE_TOP"), (2, u "PREVIOUS_IS_TOP"), (2, u "REORDER_TO_FRONT"), (2, u "NO_HISTORY"), (2, u "NO_USER_ACTION"), (2, u "RESET_TASK_IF_NEEDED"), (2, u "$VALUES"), (0, u "[Lcom/example/kittiwake/kittiwake/IntentFlag;"), (6, .class_ 52), (1, u "java/lang/Enum"), (6, .fieldref 1 60), (0, .nameAndType 61 62), (0, u "value"), (0, u "I"), (37, u "()I"), (0, u "isSetIn"), (0, u "(I)Z")] 6

def k6c0 : Code := { maxStack := 1, maxLocals := 1, code := prog_12_method_4_code, exceptionTable := #[], attributes := #[] }
def k6m0 : Method := { name := "value", desc := "()I", sig := { parameters := [], returnType := some .int }, accessFlags := 1, code := some k6c0 }
def k6c1 : Code := { maxStack := 2, maxLocals := 2, code := prog_12_method_5_code, exceptionTable := #[], attributes := #[] }
def k6m1 : Method := { name := "isSetIn", desc := "(I)Z", sig := { parameters := [.int], returnType := some .boolean }, accessFlags := 1, code := some k6c1 }
/-- com/example/kittiwake/kittiwake/IntentFlag -/
def k6 : Class := { plain "com/example/kittiwake/kittiwake/IntentFlag" (some 5) with
  accessFlags := 16433
  interfaces := #[]
  cf := some (fileOf pool6 1 #[] #[{ accessFlags := 1, nameIndex := 61, descriptorIndex := 100, attributes := #[] }, { accessFlags := 1, nameIndex := 101, descriptorIndex := 102, attributes := #[] }] 16433 50 #[] #[{ accessFlags := 16409, nameIndex := 5, descriptorIndex := 6, attributes := #[] }, { accessFlags := 16409, nameIndex := 9, descriptorIndex := 6, attributes := #[] }, { accessFlags := 16409, nameIndex := 12, descriptorIndex := 6, attributes := #[] }, { accessFlags := 16409, nameIndex := 15, descriptorIndex := 6, attributes := #[] }, { accessFlags := 16409, nameIndex := 18, descriptorIndex := 6, attributes := #[] }, { accessFlags := 16409, nameIndex := 21, descriptorIndex := 6, attributes := #[] }, { accessFlags := 16409, nameIndex := 24, descriptorIndex := 6, attributes := #[] }, { accessFlags := 16409, nameIndex := 27, descriptorIndex := 6, attributes := #[] }, { accessFlags := 16409, nameIndex := 30, descriptorIndex := 6, attributes := #[] }, { accessFlags := 16409, nameIndex := 33, descriptorIndex := 6, attributes := #[] }, { accessFlags := 16409, nameIndex := 36, descriptorIndex := 6, attributes := #[] }, { accessFlags := 16409, nameIndex := 39, descriptorIndex := 6, attributes := #[] }, { accessFlags := 18, nameIndex := 61, descriptorIndex := 62, attributes := #[] }, { accessFlags := 4122, nameIndex := 42, descriptorIndex := 43, attributes := #[] }])
  fields := #[{ name := "NEW_TASK", type := (.object "com/example/kittiwake/kittiwake/IntentFlag"), accessFlags := 16409, slot := 0, constantValue := 0 }, { name := "TASK_ON_HOME", type := (.object "com/example/kittiwake/kittiwake/IntentFlag"), accessFlags := 16409, slot := 1, constantValue := 0 }, { name := "CLEAR_TASK", type := (.object "com/example/kittiwake/kittiwake/IntentFlag"), accessFlags := 16409, slot := 2, constantValue := 0 }, { name := "MULTIPLE_TASK", type := (.object "com/example/kittiwake/kittiwake/IntentFlag"), accessFlags := 16409, slot := 3, constantValue := 0 }, { name := "NEW_DOCUMENT", type := (.object "com/example/kittiwake/kittiwake/IntentFlag"), accessFlags := 16409, slot := 4, constantValue := 0 }, { name := "CLEAR_TOP", type := (.object "com/example/kittiwake/kittiwake/IntentFlag"), accessFlags := 16409, slot := 5, constantValue := 0 }, { name := "SINGLE_TOP", type := (.object "com/example/kittiwake/kittiwake/IntentFlag"), accessFlags := 16409, slot := 6, constantValue := 0 }, { name := "PREVIOUS_IS_TOP", type := (.object "com/example/kittiwake/kittiwake/IntentFlag"), accessFlags := 16409, slot := 7, constantValue := 0 }, { name := "REORDER_TO_FRONT", type := (.object "com/example/kittiwake/kittiwake/IntentFlag"), accessFlags := 16409, slot := 8, constantValue := 0 }, { name := "NO_HISTORY", type := (.object "com/example/kittiwake/kittiwake/IntentFlag"), accessFlags := 16409, slot := 9, constantValue := 0 }, { name := "NO_USER_ACTION", type := (.object "com/example/kittiwake/kittiwake/IntentFlag"), accessFlags := 16409, slot := 10, constantValue := 0 }, { name := "RESET_TASK_IF_NEEDED", type := (.object "com/example/kittiwake/kittiwake/IntentFlag"), accessFlags := 16409, slot := 11, constantValue := 0 }, { name := "value", type := .int, accessFlags := 18, slot := 3, constantValue := 0 }, { name := "$VALUES", type := (.array (.object "com/example/kittiwake/kittiwake/IntentFlag")), accessFlags := 4122, slot := 12, constantValue := 0 }]
  methods := #[k6m0, k6m1]
  instanceTypes := #[(.object "java/lang/String"), .int, .int, .int]
  staticTypes := #[(.object "com/example/kittiwake/kittiwake/IntentFlag"), (.object "com/example/kittiwake/kittiwake/IntentFlag"), (.object "com/example/kittiwake/kittiwake/IntentFlag"), (.object "com/example/kittiwake/kittiwake/IntentFlag"), (.object "com/example/kittiwake/kittiwake/IntentFlag"), (.object "com/example/kittiwake/kittiwake/IntentFlag"), (.object "com/example/kittiwake/kittiwake/IntentFlag"), (.object "com/example/kittiwake/kittiwake/IntentFlag"), (.object "com/example/kittiwake/kittiwake/IntentFlag"), (.object "com/example/kittiwake/kittiwake/IntentFlag"), (.object "com/example/kittiwake/kittiwake/IntentFlag"), (.object "com/example/kittiwake/kittiwake/IntentFlag"), (.array (.object "com/example/kittiwake/kittiwake/IntentFlag"))]
  resolved := Array.replicate 109 none
  statics := some 0 }

def pool7 : Array CpInfo := pool [(1, u "java/lang/Cloneable"), (0, .class_ 1), (0, u "java/lang/Object"), (0, .class_ 3)] 3

/-- java/lang/Cloneable -/
def k7 : Class := { plain "java/lang/Cloneable" (some 0) with
  accessFlags := 1537
  interfaces := #[]
  cf := some (fileOf pool7 2 #[] #[] 1537 4 #[] #[])
  fields := #[]
  methods := #[]
  instanceTypes := #[]
  staticTypes := #[]
  resolved := Array.replicate 8 none
  statics := none }

/-- the primitive byte -/
def k8 : Class := { plain "byte" none with kind := .primitive 'B', accessFlags := 0x411 }
/-- [B -/
def k9 : Class := { plain "[B" (some 0) with kind := .array 8 .byte, interfaces := #[7, 4], accessFlags := 1041 }

/-- the primitive int -/
def k10 : Class := { plain "int" none with kind := .primitive 'I', accessFlags := 0x411 }
/-- [I -/
def k11 : Class := { plain "[I" (some 0) with kind := .array 10 .int, interfaces := #[7, 4], accessFlags := 1041 }

def heap : Heap := #[{ cls := 6, slots := #[.ref 1, .ref 5, .ref 2, .ref 8, .ref 4, .ref 12, .ref 6, .ref 10, .ref 3, .ref 9, .ref 11, .ref 7, .null], vm := .statics 6 },
  { cls := 6, slots := #[.null, .int 0, .int 0, .int 268435456], vm := .none },
  { cls := 6, slots := #[.null, .int 0, .int 0, .int 32768], vm := .none },
  { cls := 6, slots := #[.null, .int 0, .int 0, .int 131072], vm := .none },
  { cls := 6, slots := #[.null, .int 0, .int 0, .int 524288], vm := .none },
  { cls := 6, slots := #[.null, .int 0, .int 0, .int 16384], vm := .none },
  { cls := 6, slots := #[.null, .int 0, .int 0, .int 536870912], vm := .none },
  { cls := 6, slots := #[.null, .int 0, .int 0, .int 2097152], vm := .none },
  { cls := 6, slots := #[.null, .int 0, .int 0, .int 134217728], vm := .none },
  { cls := 6, slots := #[.null, .int 0, .int 0, .int 1073741824], vm := .none },
  { cls := 6, slots := #[.null, .int 0, .int 0, .int 16777216], vm := .none },
  { cls := 6, slots := #[.null, .int 0, .int 0, .int 262144], vm := .none },
  { cls := 6, slots := #[.null, .int 0, .int 0, .int 67108864], vm := .none }]
def classes : Array Class := #[k0, k1, k2, k3, k4, k5, k6, k7, k8, k9, k10, k11]
def interned : List (Array UInt16 × Addr) := []
def slotsUsed : Nat := 61
def theMethod : MethodId := ⟨1, 3⟩
def args0 : Array Value := #[.int 5, .int 7]
def aboutOver (below : List Frame) : State where
  vm := { classes := classes, interned := interned.toArray }
  heap := heap
  slotsUsed := slotsUsed
  threads := #[{ frames := .invoking theMethod args0 :: below }]
def below0 : List Frame := [.native { method := ⟨0, 0⟩, args := #[] }]
def about1 : State := aboutOver below0
def p0 : Program := .bare "" "" ""
def e0 : Env := launch0.env 0 0 0
theorem w_frames : about1.frames = Frame.invoking theMethod args0 :: below0 := rfl
set_option maxRecDepth 65536 in
theorem w_args : argsFit about1.vm theMethod args0 = true := by decide +kernel
set_option maxRecDepth 65536 in
theorem w_heap : heapFits about1 = true := by decide +kernel
set_option maxRecDepth 65536 in
theorem w_runnable : about1.curStatus? = some .runnable := by decide +kernel
set_option maxRecDepth 65536 in
theorem w_alone : about1.alone = true := by decide +kernel
set_option maxRecDepth 65536 in
theorem w_named : about1.methodNamed? x = some theMethod := by decide +kernel
set_option maxRecDepth 65536 in
theorem w_hears : about1.hears theMethod below0 = true := by decide +kernel
set_option maxRecDepth 65536 in
theorem w_ripe : about1.ripe theMethod args0 below0 = true := by decide +kernel
theorem w_running : about1.status = .running := rfl
set_option maxRecDepth 65536 in
theorem w_room : about1.hasRoom e0.platform room_1 = true :=
  launch0.hasRoom_least _ room_1 (by decide +kernel) (by decide +kernel) (by decide +kernel) (by decide +kernel) (by decide +kernel) (by decide +kernel)
theorem allAtoms_all (ts : List Jvm.Cond) (a : Array Jvm.Value) (st : Jvm.State) : (allAtoms ts).before a st = ts.all (fun c => c.before a st) := by
  induction ts with
  | nil => rfl
  | cons c t ih =>
    show (Jvm.Cond.and c (allAtoms t)).before a st = _
    rw [Jvm.Cond.before_and, ih, List.all_cons]
def words1 : List Jvm.Cond := Jvm.Cond.code x code maxLocals ret :: tables_1
/-- a 'code' word, met by the world's own term for the bytes: nothing is compared byte by byte -/
theorem code_word {y : MethodName} {bytes : ByteArray} {mx : Nat} {rt : Option FieldType} {a : Array Value} {s : State} {m : MethodId} {meth : Method} {c : Code} (h1 : s.methodNamed? y = some m) (h2 : s.vm.method? m = some meth) (h3 : meth.code = some c) (h4 : c.code = bytes)
    (h5 : (c.maxLocals == mx && c.exceptionTable.isEmpty && decide (c.maxStack ≤ mostOperands) && decide (meth.sig.returnType = rt) && !meth.locks && decide (parseMethodDescriptor y.desc = some meth.sig)) = true) : (Jvm.Cond.code y bytes mx rt).before a s = true := by
  simp only [Bool.and_eq_true, beq_iff_eq, Bool.not_eq_true', decide_eq_true_eq] at h5
  obtain ⟨⟨⟨⟨⟨g1, g2⟩, g3⟩, g4⟩, g5⟩, g6⟩ := h5
  simp [Cond.before, Cond.holds, Cond.value, h1, h2, h3, h4, g1, g2, g3, g4, g5, g6]
def isCode : Jvm.Cond → Bool
  | .code _ _ _ _ => true
  | _ => false
theorem all_split {L : List Jvm.Cond} {P : Jvm.Cond → Bool} (h1 : L.all (fun c => isCode c || P c) = true) (h2 : ∀ c ∈ L.filter isCode, P c = true) : L.all P = true := by
  refine List.all_eq_true.mpr fun c hc => ?_
  have h := List.all_eq_true.mp h1 c hc
  rcases Bool.eq_false_or_eq_true (isCode c) with hi | hi
  · exact h2 c (List.mem_filter.mpr ⟨hc, hi⟩)
  · simpa [hi] using h
set_option maxRecDepth 65536 in
theorem w_c0 : (Jvm.Cond.code x code maxLocals ret).before args0 about1 = true := code_word (m := ⟨1, 3⟩) (meth := k1m3) (c := k1c3) (by decide +kernel) rfl rfl rfl (by decide +kernel)
set_option maxRecDepth 65536 in
theorem w_c1 : (Jvm.Cond.code ({ cls := "com/example/kittiwake/kittiwake/IntentFlagIsSetInPinLaw", name := "flagAt", desc := "(I)Lcom/example/kittiwake/kittiwake/IntentFlag;" } : Jvm.MethodName) method_2_code (1 : Nat) (Option.some (Jvm.ClassFile.FieldType.object "com/example/kittiwake/kittiwake/IntentFlag"))).before args0 about1 = true := code_word (m := ⟨1, 1⟩) (meth := k1m1) (c := k1c1) (by decide +kernel) rfl rfl rfl (by decide +kernel)
set_option maxRecDepth 65536 in
theorem w_c2 : (Jvm.Cond.code ({ cls := "com/example/kittiwake/kittiwake/IntentFlagIsSetInPinLaw", name := "bitAt", desc := "(I)I" } : Jvm.MethodName) method_3_code (1 : Nat) (Option.some Jvm.ClassFile.FieldType.int)).before args0 about1 = true := code_word (m := ⟨1, 2⟩) (meth := k1m2) (c := k1c2) (by decide +kernel) rfl rfl rfl (by decide +kernel)
set_option maxRecDepth 65536 in
theorem w_c3 : (Jvm.Cond.code ({ cls := "com/example/kittiwake/kittiwake/IntentFlag", name := "value", desc := "()I" } : Jvm.MethodName) prog_12_method_4_code (1 : Nat) (Option.some Jvm.ClassFile.FieldType.int)).before args0 about1 = true := code_word (m := ⟨6, 0⟩) (meth := k6m0) (c := k6c0) (by decide +kernel) rfl rfl rfl (by decide +kernel)
set_option maxRecDepth 65536 in
theorem w_c4 : (Jvm.Cond.code ({ cls := "com/example/kittiwake/kittiwake/IntentFlag", name := "isSetIn", desc := "(I)Z" } : Jvm.MethodName) prog_12_method_5_code (2 : Nat) (Option.some Jvm.ClassFile.FieldType.boolean)).before args0 about1 = true := code_word (m := ⟨6, 1⟩) (meth := k6m1) (c := k6c1) (by decide +kernel) rfl rfl rfl (by decide +kernel)
def codes1 : List Jvm.Cond := [Jvm.Cond.code x code maxLocals ret, Jvm.Cond.code ({ cls := "com/example/kittiwake/kittiwake/IntentFlagIsSetInPinLaw", name := "flagAt", desc := "(I)Lcom/example/kittiwake/kittiwake/IntentFlag;" } : Jvm.MethodName) method_2_code (1 : Nat) (Option.some (Jvm.ClassFile.FieldType.object "com/example/kittiwake/kittiwake/IntentFlag")), Jvm.Cond.code ({ cls := "com/example/kittiwake/kittiwake/IntentFlagIsSetInPinLaw", name := "bitAt", desc := "(I)I" } : Jvm.MethodName) method_3_code (1 : Nat) (Option.some Jvm.ClassFile.FieldType.int), Jvm.Cond.code ({ cls := "com/example/kittiwake/kittiwake/IntentFlag", name := "value", desc := "()I" } : Jvm.MethodName) prog_12_method_4_code (1 : Nat) (Option.some Jvm.ClassFile.FieldType.int), Jvm.Cond.code ({ cls := "com/example/kittiwake/kittiwake/IntentFlag", name := "isSetIn", desc := "(I)Z" } : Jvm.MethodName) prog_12_method_5_code (2 : Nat) (Option.some Jvm.ClassFile.FieldType.boolean)]
set_option maxRecDepth 65536 in
theorem codes_eq : words1.filter isCode = codes1 := rfl
theorem w_codes : ∀ c ∈ words1.filter isCode, c.before args0 about1 = true := by
  rw [codes_eq]
  intro c hc
  simp only [codes1, List.mem_cons, List.not_mem_nil, or_false] at hc
  rcases hc with rfl | rfl | rfl | rfl | rfl
  · exact w_c0
  · exact w_c1
  · exact w_c2
  · exact w_c3
  · exact w_c4
set_option maxRecDepth 65536 in
theorem w_t1 : (words1.take 24).all (fun c => isCode c || c.before args0 about1) = true := by decide +kernel
set_option maxRecDepth 65536 in
theorem w_t2 : (words1.drop 24).all (fun c => isCode c || c.before args0 about1) = true := by decide +kernel
theorem w_tables : (allAtoms (Jvm.Cond.code x code maxLocals ret :: tables_1)).before args0 about1 = true := by
  rw [allAtoms_all]
  show words1.all (fun c => c.before args0 about1) = true
  refine all_split ?_ w_codes
  rw [← List.take_append_drop 24 words1, List.all_append, w_t1, w_t2]
  rfl
set_option maxRecDepth 65536 in
theorem w_case : (Jvm.Cond.and given_1 narrow_1).before args0 about1 = true := by decide +kernel
theorem w_applies : (headSpec (Jvm.Cond.code x code maxLocals ret :: tables_1) room_1).applies x e0.platform about1 = true :=
  (Spec.applies_iff w_frames).mpr ⟨w_running, w_runnable, w_alone, w_named, w_hears, w_ripe, w_room, w_tables⟩
theorem atStart : AtStart classFile x code maxLocals ret World_1 tables_1 room_1 Calls_1 rest_1 Pre_1 launch0 p0 e0 about1 theMethod args0 below0 :=
  ⟨lists_1, trivial, launch0.admits_env _ _ _, launch0.least_env, fairChoices_fair.cas, fairChoices_fair.clock, w_frames, w_args, w_heap, w_applies, trivial, trivial, w_case⟩
end start1
theorem witness_1 : WitnessClaimed_1 := ⟨start1.p0, start1.e0, start1.about1, start1.theMethod, start1.args0, start1.below0, start1.atStart⟩
end Jvm.Pilot.@@N@@
