import JvmDerived
import JvmDerived.Pilot.@@N@@Statement
import JvmDerived.Pilot.@@N@@Code
set_option linter.unusedVariables false
set_option linter.unusedSimpArgs false
@@BLOCK:NumsL.lean.txt@@
namespace Jvm.Pilot.@@N@@
open Jvm Jvm.ClassFile Sem Op Lib Jvm.Free Jvm.Stand Jvm.LawKit Jvm.RoadKit Bundle Jvm.Pilot.@@N@@.Jvm.D
section Own
variable {p : Program} {l : Launch} {e : Env} {R : Room} {s : State} {m : MethodId} {args : Array Value} {below : List Frame} {meth : Method} {c : Code} {T T' : State} {locs : List Loc} {cells slots : Nat} {Z : State} {h h' h0 : Heap} {n0 : Nat} {ws : List Addr} {a0 : Array Value}
/-- what is still to be shown: from this frame the run ends as G says -/
def own_G (p : Program) (e : Env) (below : List Frame) (G : Outcome → State → Prop) (T : State) (f : JFrame) : Prop :=
  ∃ s₂ o, Steps p.tables e below (T.setTop f) s₂ ∧ s₂.status = .running ∧ Ended s₂ below o ∧ G o s₂
theorem own_st {G : Outcome → State → Prop} {f f' : JFrame} (q : ∀ t, Steps p.tables e below (T'.setTop f') t → Steps p.tables e below (T.setTop f) t) (k : own_G p e below G T' f') : own_G p e below G T f := by
  obtain ⟨a, o, r1, r2⟩ := k
  exact ⟨a, o, q a r1, r2⟩
theorem own_cast {G : Outcome → State → Prop} {f f' : JFrame} (q : f = f') (k : own_G p e below G T f') : own_G p e below G T f := q ▸ k
def own_D (s : State) (Q : Option Value → Heap → List Loc → Prop) (C S : Nat) (o : Outcome) (U : State) : Prop := ∃ v L, o = .returned v ∧ Q v U.heap L ∧ FrameEnd s o U L C S
def own_Q (n0 : Nat) (h0 : Heap) (ws : List Addr) (P : Option Value → Heap → Prop) (v : Option Value) (h : Heap) (L : List Loc) : Prop := Fr n0 L ∧ Keep h0 h ws ∧ P v h
def own_M (l : Launch) (y : MethodName) (code : ByteArray) (maxL : Nat) (ret : Option FieldType) (wd : List Jvm.Cond) (rm : Room) (Z : State) (as : Array Value) (h0 : Heap) (Q : Option Value → Heap → List Loc → Prop) : Prop :=
  MetFree l y (head1 (Jvm.Cond.code y code maxL ret :: wd) rm) (fun a U => a = as ∧ Z.Warmed39 U.vm ∧ U.heap = h0) (fun _ _ _ _ _ => True) (fun _ U o U' => ∃ v L, o = .returned v ∧ Q v U'.heap L ∧ FrameEnd U o U' L rm.cells rm.slots)
/-- where the walk stands: nothing old but ws was written -/
def own_S (p : Program) (l : Launch) (e : Env) (R : Room) (s : State) (m : MethodId) (args : Array Value) (below : List Frame) (meth : Method) (c : Code) (n0 : Nat) (h0 : Heap) (ws : List Addr) (T : State) (h : Heap) (cells slots : Nat) : Prop :=
  (∃ locs, Stand p l e R s m args below meth c T locs cells slots ∧ Fr n0 locs) ∧ T.heap = h ∧ Keep h0 h ws
theorem own_S.her (X : own_S p l e R s m args below meth c n0 h0 ws T h cells slots) : At T m c below := by
  obtain ⟨⟨_, X, _⟩, _⟩ := X; exact X.here
theorem own_body {y : MethodName} {code : ByteArray} {maxL : Nat} {ret : Option FieldType} {wd : List Jvm.Cond} {rm : Room} {as : Array Value} {P : Option Value → Heap → Prop} (hy : plainFor y = true)
    (B : ∀ (p : Program) (e : Env) (s : State) (m : MethodId) (below : List Frame) (meth : Method) (c : Code) (T : State), own_S p l e rm s m as below meth c n0 h0 ws T h0 0 0 → p.tables.exec = Jvm.exec → c.code = code → c.maxLocals = maxL → s.vm.findClass y.cls = some m.cls → meth.name = y.name → meth.sig.returnType = ret → meth.locks = false → Z.Warmed39 s.vm →
      own_G p e below (own_D s (own_Q n0 h0 ws P) rm.cells rm.slots) T (entryFrame m as maxL)) :
    own_M l y code maxL ret wd rm Z as h0 (own_Q n0 h0 ws P) := by
  refine MetFree.of_bodySF hy hisR ?_
  intro p e s m args below meth c s₁ Bd hml0 hP hK
  obtain ⟨rfl, hZ, hh⟩ := hP
  exact B p e s m below meth c s₁ ⟨⟨[], Stand.of_body Bd, Fr.nil n0⟩, by rw [← hh, Bd.state]; rfl, Keep.refl _ _⟩ Bd.exec Bd.bytes hml0 (findClass_of_methodNamed Bd.named) (name_of_methodNamed Bd.named Bd.method).1 Bd.returns Bd.notSynchronized hZ
section Leave
variable {P : Option Value → Heap → Prop} {pc : Nat} {Ls : Array Slot} {rest : List Value} {C S : Nat}
theorem own_retN {t : FieldType} {z : Int32} (X : own_S p l e R s m args below meth c n0 h0 ws T h cells slots) (hx : p.tables.exec = Jvm.exec) (hret : meth.sig.returnType = some t) (hlk : meth.locks = false) (ht : t = .boolean ∨ t = .byte ∨ t = .char ∨ t = .short) (hd : decode c.code pc = .ok (.ireturn, 1)) (hc : cells ≤ C) (hs : slots ≤ S) (hP : P (some (.int (nar t z))) h) :
    own_G p e below (own_D s (own_Q n0 h0 ws P) C S) T (mkF m pc Ls (.int z :: rest)) := by
  obtain ⟨⟨locs, X, N⟩, rfl, K⟩ := X
  obtain ⟨fs, hr, hrun, hended, hW, hsame⟩ := X.leave (v := some (.int (nar t z))) (fun h => by rw [hret] at h; cases h) hlk
  exact ⟨_, _, retN X hx hret ht hd hr, hrun, hended, _, _, rfl, ⟨N, K, hP⟩, ⟨_, rfl⟩, hW, hsame.mono hc hs⟩
theorem own_retI {z : Int32} (X : own_S p l e R s m args below meth c n0 h0 ws T h cells slots) (hx : p.tables.exec = Jvm.exec) (hret : meth.sig.returnType = some .int) (hlk : meth.locks = false) (hd : decode c.code pc = .ok (.ireturn, 1)) (hc : cells ≤ C) (hs : slots ≤ S) (hP : P (some (.int z)) h) :
    own_G p e below (own_D s (own_Q n0 h0 ws P) C S) T (mkF m pc Ls (.int z :: rest)) := by
  obtain ⟨⟨locs, X, N⟩, rfl, K⟩ := X
  obtain ⟨fs, hr, hrun, hended, hW, hsame⟩ := X.leave (v := some (.int z)) (fun h => by rw [hret] at h; cases h) hlk
  exact ⟨_, _, retOut X hx hret rfl (Or.inl ⟨rfl, Or.inl rfl, _, rfl⟩) hd hr, hrun, hended, _, _, rfl, ⟨N, K, hP⟩, ⟨_, rfl⟩, hW, hsame.mono hc hs⟩
theorem own_retL {z : Int64} (X : own_S p l e R s m args below meth c n0 h0 ws T h cells slots) (hx : p.tables.exec = Jvm.exec) (hret : meth.sig.returnType = some .long) (hlk : meth.locks = false) (hd : decode c.code pc = .ok (.lreturn, 1)) (hc : cells ≤ C) (hs : slots ≤ S) (hP : P (some (.long z)) h) :
    own_G p e below (own_D s (own_Q n0 h0 ws P) C S) T (mkF m pc Ls (.long z :: rest)) := by
  obtain ⟨⟨locs, X, N⟩, rfl, K⟩ := X
  obtain ⟨fs, hr, hrun, hended, hW, hsame⟩ := X.leave (v := some (.long z)) (fun h => by rw [hret] at h; cases h) hlk
  exact ⟨_, _, retOut X hx hret rfl (Or.inr (Or.inl ⟨rfl, rfl, _, rfl⟩)) hd hr, hrun, hended, _, _, rfl, ⟨N, K, hP⟩, ⟨_, rfl⟩, hW, hsame.mono hc hs⟩
theorem own_retA {t : FieldType} {z : Addr} (X : own_S p l e R s m args below meth c n0 h0 ws T h cells slots) (hx : p.tables.exec = Jvm.exec) (hret : meth.sig.returnType = some t) (hlk : meth.locks = false) (ht : t.isReference = true) (hn : narrow t (.ref z) = .ref z) (hd : decode c.code pc = .ok (.areturn, 1)) (hc : cells ≤ C) (hs : slots ≤ S) (hP : P (some (.ref z)) h) :
    own_G p e below (own_D s (own_Q n0 h0 ws P) C S) T (mkF m pc Ls (.ref z :: rest)) := by
  obtain ⟨⟨locs, X, N⟩, rfl, K⟩ := X
  obtain ⟨fs, hr, hrun, hended, hW, hsame⟩ := X.leave (v := some (.ref z)) (fun h => by rw [hret] at h; cases h) hlk
  exact ⟨_, _, retOut X hx hret hn (Or.inr (Or.inr (Or.inr (Or.inr ⟨rfl, ht, rfl⟩)))) hd hr, hrun, hended, _, _, rfl, ⟨N, K, hP⟩, ⟨_, rfl⟩, hW, hsame.mono hc hs⟩
theorem own_ret0 (X : own_S p l e R s m args below meth c n0 h0 ws T h cells slots) (hx : p.tables.exec = Jvm.exec) (hret : meth.sig.returnType = none) (hlk : meth.locks = false) (hd : decode c.code pc = .ok (.return_, 1)) (hc : cells ≤ C) (hs : slots ≤ S) (hP : P none h) :
    own_G p e below (own_D s (own_Q n0 h0 ws P) C S) T (mkF m pc Ls []) := by
  obtain ⟨⟨locs, X, N⟩, rfl, K⟩ := X
  obtain ⟨fs, hr, hrun, hended, hW, hsame⟩ := X.leave (v := none) (fun _ => rfl) hlk
  exact ⟨_, _, X.returnOut hx hret hd hr, hrun, hended, _, _, rfl, ⟨N, K, hP⟩, ⟨_, rfl⟩, hW, hsame.mono hc hs⟩
end Leave
section Calls
variable {y : MethodName} {bytes : ByteArray} {maxL : Nat} {ret : Option FieldType} {rm : Room} {W : Nat} {own : String} {index : Nat} {P : Option Value → Heap → Prop} {wsc : List Addr} {G : Outcome → State → Prop} {pc : Nat} {Ls : Array Slot} {rest stk : List Value} {ps : List FieldType} {r : Option FieldType}
theorem own_callS (as : List Value) (X : own_S p l e R s m args below meth c n0 h0 ws T h cells slots) (hx : p.tables.exec = Jvm.exec) (hZ : Z.Warmed39 s.vm) (hown : s.vm.findClass own = some m.cls)
    (w1 : (Jvm.Cond.methodLink own index y).before a0 Z = true) (w2 : (Jvm.Cond.static y).before a0 Z = true) (w3 : (Jvm.Cond.initialized y.cls).before a0 Z = true) (w4 : (Jvm.Cond.code y bytes maxL ret).before a0 Z = true) (hy : y.cls ≠ "java/lang/invoke/MethodHandle" ∧ y.cls ≠ "java/lang/invoke/VarHandle")
    (M : own_M l y bytes maxL ret [] rm Z as.toArray h (own_Q n0 h wsc P)) (q : ∀ x ∈ wsc, x ∈ ws ∨ h0.size ≤ x)
    (hf : rm.frames + 1 ≤ R.frames) (hl : W + (maxL + 11) + rm.locals ≤ R.locals) (hc : cells + rm.cells ≤ R.cells) (hs : slots + rm.slots ≤ R.slots) (hsize : Ls.size = c.maxLocals)
    (hlen : parseMethodDescriptor y.desc = some ⟨ps, r⟩) (hlen' : as.length = ps.length) (hstk : stk = as.reverse ++ rest) (hW : (rest.map fun v => v.category).sum ≤ W) (hd : decode c.code pc = .ok (.invokestatic index, 3))
    (k : ∀ v T' h', own_S p l e R s m args below meth c n0 h0 ws T' h' (cells + rm.cells) (slots + rm.slots) → Keep h h' wsc → P v h' → own_G p e below G T' (mkF m (pc + 3) Ls (v.toList ++ rest))) :
    own_G p e below G T (mkF m pc Ls stk) := by
  obtain ⟨⟨locs, X, N⟩, e0, K⟩ := X
  obtain ⟨v, vm₁, ⟨T', L', k', n'⟩, -, X', ⟨Lc, hQ, l', y', z'⟩, st⟩ := Jvm.LawKit.callS X hx (y := y) hown (mvT hZ w1) (mvT hZ w2) (mvT hZ w3) (mvT hZ w4) hy (backOf (W := W) M hZ w4 w3 hf hl) (g := mkF m pc Ls stk) rfl hsize (argsL := as) (rest := rest) (lenOf hlen hlen') hstk (by show 2 * 0 + _ ≤ _; rw [Nat.mul_zero, Nat.zero_add]; exact hW) hd (fun _ _ => ⟨rfl, e0, hc, hs⟩)
  dsimp only [Pt.U, Pt.locs, Pt.cells, Pt.slots] at X' l' y' z' st hQ
  subst l' y' z'
  obtain ⟨N', K', hP⟩ := hQ
  exact own_st st (k v T' _ ⟨⟨_, X', N.app N'⟩, rfl, K.trans K' q⟩ K' hP)
theorem own_callC (as : List Value) {a : Addr} (X : own_S p l e R s m args below meth c n0 h0 ws T h cells slots) (hx : p.tables.exec = Jvm.exec) (hZ : Z.Warmed39 s.vm) (hown : s.vm.findClass own = some m.cls) (hy1 : y.name = "<init>")
    (w1 : (Jvm.Cond.methodLink own index y).before a0 Z = true) (w2 : (Jvm.Cond.instanceMethod y).before a0 Z = true) (w3 : (Jvm.Cond.initialized y.cls).before a0 Z = true) (w4 : (Jvm.Cond.code y bytes maxL none).before a0 Z = true) (hy : y.cls ≠ "java/lang/invoke/MethodHandle" ∧ y.cls ≠ "java/lang/invoke/VarHandle")
    (M : own_M l y bytes maxL none [] rm Z (Value.ref a :: as).toArray h (own_Q n0 h wsc P)) (q : ∀ x ∈ wsc, x ∈ ws ∨ h0.size ≤ x)
    (hf : rm.frames + 1 ≤ R.frames) (hl : W + (maxL + 11) + rm.locals ≤ R.locals) (hc : cells + rm.cells ≤ R.cells) (hs : slots + rm.slots ≤ R.slots) (hsize : Ls.size = c.maxLocals)
    (hlen : parseMethodDescriptor y.desc = some ⟨ps, r⟩) (hlen' : as.length = ps.length) (hstk : stk = as.reverse ++ .ref a :: rest) (hW : (rest.map fun v => v.category).sum ≤ W) (hd : decode c.code pc = .ok (.invokespecial index, 3))
    (k : ∀ v T' h', own_S p l e R s m args below meth c n0 h0 ws T' h' (cells + rm.cells) (slots + rm.slots) → Keep h h' wsc → P v h' → own_G p e below G T' (mkF m (pc + 3) Ls (v.toList ++ rest))) :
    own_G p e below G T (mkF m pc Ls stk) := by
  obtain ⟨⟨locs, X, N⟩, e0, K⟩ := X
  obtain ⟨v, vm₁, ⟨T', L', k', n'⟩, -, X', ⟨Lc, hQ, l', y', z'⟩, st⟩ := X.specialBack hx (y := y) hy1 hown (mvT hZ w1) (mvT hZ w2) (mvT hZ w4) hy (backOf (W := W) M hZ w4 w3 hf hl) (g := mkF m pc Ls stk) rfl hsize (Steps.refl _) (a := a) (argsL := as) (rest := rest) (lenOf hlen hlen') hstk (by show 2 * 0 + _ ≤ _; rw [Nat.mul_zero, Nat.zero_add]; exact hW) hd (fun _ _ => ⟨rfl, e0, hc, hs⟩)
  dsimp only [Pt.U, Pt.locs, Pt.cells, Pt.slots] at X' l' y' z' st hQ
  subst l' y' z'
  obtain ⟨N', K', hP⟩ := hQ
  exact own_st (fun t => st.trans) (k v T' _ ⟨⟨_, X', N.app N'⟩, rfl, K.trans K' q⟩ K' hP)
theorem own_callV (as : List Value) {a : Addr} (X : own_S p l e R s m args below meth c n0 h0 ws T h cells slots) (hx : p.tables.exec = Jvm.exec) (hZ : Z.Warmed39 s.vm) (hown : s.vm.findClass own = some m.cls)
    (w1 : (Jvm.Cond.methodLink own index y).before a0 Z = true) (w2 : (Jvm.Cond.declares y).before a0 Z = true) (w3 : (Jvm.Cond.selects y.cls y y).before a0 Z = true) (w5 : (Jvm.Cond.instanceMethod y).before a0 Z = true) (w6 : (Jvm.Cond.initialized y.cls).before a0 Z = true) (w4 : (Jvm.Cond.code y bytes maxL ret).before a0 Z = true) (hy : y.cls ≠ "java/lang/invoke/MethodHandle" ∧ y.cls ≠ "java/lang/invoke/VarHandle")
    (E : Exa Z h a y.cls)
    (M : own_M l y bytes maxL ret [] rm Z (Value.ref a :: as).toArray h (own_Q n0 h wsc P)) (q : ∀ x ∈ wsc, x ∈ ws ∨ h0.size ≤ x)
    (hf : rm.frames + 1 ≤ R.frames) (hl : W + (maxL + 11) + rm.locals ≤ R.locals) (hc : cells + rm.cells ≤ R.cells) (hs : slots + rm.slots ≤ R.slots) (hsize : Ls.size = c.maxLocals)
    (hlen : parseMethodDescriptor y.desc = some ⟨ps, r⟩) (hlen' : as.length = ps.length) (hstk : stk = as.reverse ++ .ref a :: rest) (hW : (rest.map fun v => v.category).sum ≤ W) (hd : decode c.code pc = .ok (.invokevirtual index, 3))
    (k : ∀ v T' h', own_S p l e R s m args below meth c n0 h0 ws T' h' (cells + rm.cells) (slots + rm.slots) → Keep h h' wsc → P v h' → own_G p e below G T' (mkF m (pc + 3) Ls (v.toList ++ rest))) :
    own_G p e below G T (mkF m pc Ls stk) := by
  obtain ⟨⟨locs, X, N⟩, e0, K⟩ := X
  obtain ⟨cq, kq, qa, qb, qc⟩ := isOf hZ e0 E
  obtain ⟨v, vm₁, ⟨T', L', k', n'⟩, -, X', ⟨Lc, hQ, l', y', z'⟩, st⟩ := X.virtualBack hx (y := y) (z := y) hown (mvT hZ w1) (mvT hZ w2) (notFace_of_selects (args := #[]) (mvT hZ w3)) (mvT hZ w3) (mvT hZ w5) hy (backOf (W := W) M hZ w4 w6 hf hl) qa qc (g := mkF m pc Ls stk) rfl hsize (Steps.refl _) (argsL := as) (rest := rest) (lenOf hlen hlen') hstk (by show 2 * 0 + _ ≤ _; rw [Nat.mul_zero, Nat.zero_add]; exact hW) hd (fun _ _ => ⟨rfl, e0, hc, hs⟩)
  dsimp only [Pt.U, Pt.locs, Pt.cells, Pt.slots] at X' l' y' z' st hQ
  subst l' y' z'
  obtain ⟨N', K', hP⟩ := hQ
  exact own_st (fun t => st.trans) (k v T' _ ⟨⟨_, X', N.app N'⟩, rfl, K.trans K' q⟩ K' hP)
theorem own_initO {a : Addr} (X : own_S p l e R s m args below meth c n0 h0 ws T h cells slots) (hx : p.tables.exec = Jvm.exec) (hZ : Z.Warmed39 s.vm) (hown : s.vm.findClass own = some m.cls)
    (w1 : (Jvm.Cond.methodLink own index Lib.objectInit).before a0 Z = true) (w2 : (Jvm.Cond.instanceMethod Lib.objectInit).before a0 Z = true) (w3 : (Jvm.Cond.code Lib.objectInit ⟨#[0xb1]⟩ 1 none).before a0 Z = true)
    (hf : 1 ≤ R.frames) (hl : W + 12 ≤ R.locals) (hsize : Ls.size = c.maxLocals) (hW : (rest.map fun v => v.category).sum ≤ W) (hd : decode c.code pc = .ok (.invokespecial index, 3))
    (k : ∀ T', own_S p l e R s m args below meth c n0 h0 ws T' h cells slots → own_G p e below G T' (mkF m (pc + 3) Ls rest)) :
    own_G p e below G T (mkF m pc Ls (.ref a :: rest)) := by
  obtain ⟨⟨locs, X, N⟩, e0, K⟩ := X
  obtain ⟨T1, X1, e1, st⟩ := initO X hx hZ hown w1 w2 w3 e0 (g := mkF m pc Ls (.ref a :: rest)) rfl hsize rfl hd hf (W := W) (by show 2 * 0 + _ ≤ _; rw [Nat.mul_zero, Nat.zero_add]; exact hW) hl
  exact own_st st (k T1 ⟨⟨_, X1, N⟩, e1, K⟩)
/-- a pure callee: it returns this and leaves the heap -/
def own_P (val : Value) (h0 : Heap) (v : Option Value) (h : Heap) : Prop := v = some val ∧ h = h0
theorem own_callSP (as : List Value) {val : Value} (X : own_S p l e R s m args below meth c n0 h0 ws T h cells slots) (hx : p.tables.exec = Jvm.exec) (hZ : Z.Warmed39 s.vm) (hown : s.vm.findClass own = some m.cls)
    (w1 : (Jvm.Cond.methodLink own index y).before a0 Z = true) (w2 : (Jvm.Cond.static y).before a0 Z = true) (w3 : (Jvm.Cond.initialized y.cls).before a0 Z = true) (w4 : (Jvm.Cond.code y bytes maxL ret).before a0 Z = true) (hy : y.cls ≠ "java/lang/invoke/MethodHandle" ∧ y.cls ≠ "java/lang/invoke/VarHandle")
    (M : own_M l y bytes maxL ret [] rm Z as.toArray h (own_Q n0 h [] (own_P val h)))
    (hf : rm.frames + 1 ≤ R.frames) (hl : W + (maxL + 11) + rm.locals ≤ R.locals) (hc : cells + rm.cells ≤ R.cells) (hs : slots + rm.slots ≤ R.slots) (hsize : Ls.size = c.maxLocals)
    (hlen : parseMethodDescriptor y.desc = some ⟨ps, r⟩) (hlen' : as.length = ps.length) (hstk : stk = as.reverse ++ rest) (hW : (rest.map fun v => v.category).sum ≤ W) (hd : decode c.code pc = .ok (.invokestatic index, 3))
    (k : ∀ T', own_S p l e R s m args below meth c n0 h0 ws T' h (cells + rm.cells) (slots + rm.slots) → own_G p e below G T' (mkF m (pc + 3) Ls (val :: rest))) :
    own_G p e below G T (mkF m pc Ls stk) :=
  own_callS as X hx hZ hown w1 w2 w3 w4 hy M (fun _ q => nomatch q) hf hl hc hs hsize hlen hlen' hstk hW hd fun v T' h' X' _ hv => by
    obtain ⟨hv, hh⟩ := hv
    rw [hv]; rw [hh] at X'
    exact k T' X'
/-- a callee that returns nothing and leaves the heap -/
def own_N (h0 : Heap) (v : Option Value) (h : Heap) : Prop := v = none ∧ h = h0
theorem own_callCN (as : List Value) {a : Addr} (X : own_S p l e R s m args below meth c n0 h0 ws T h cells slots) (hx : p.tables.exec = Jvm.exec) (hZ : Z.Warmed39 s.vm) (hown : s.vm.findClass own = some m.cls) (hy1 : y.name = "<init>")
    (w1 : (Jvm.Cond.methodLink own index y).before a0 Z = true) (w2 : (Jvm.Cond.instanceMethod y).before a0 Z = true) (w3 : (Jvm.Cond.initialized y.cls).before a0 Z = true) (w4 : (Jvm.Cond.code y bytes maxL none).before a0 Z = true) (hy : y.cls ≠ "java/lang/invoke/MethodHandle" ∧ y.cls ≠ "java/lang/invoke/VarHandle")
    (M : own_M l y bytes maxL none [] rm Z (Value.ref a :: as).toArray h (own_Q n0 h [] (own_N h)))
    (hf : rm.frames + 1 ≤ R.frames) (hl : W + (maxL + 11) + rm.locals ≤ R.locals) (hc : cells + rm.cells ≤ R.cells) (hs : slots + rm.slots ≤ R.slots) (hsize : Ls.size = c.maxLocals)
    (hlen : parseMethodDescriptor y.desc = some ⟨ps, r⟩) (hlen' : as.length = ps.length) (hstk : stk = as.reverse ++ .ref a :: rest) (hW : (rest.map fun v => v.category).sum ≤ W) (hd : decode c.code pc = .ok (.invokespecial index, 3))
    (k : ∀ T', own_S p l e R s m args below meth c n0 h0 ws T' h (cells + rm.cells) (slots + rm.slots) → own_G p e below G T' (mkF m (pc + 3) Ls rest)) :
    own_G p e below G T (mkF m pc Ls stk) :=
  own_callC as X hx hZ hown hy1 w1 w2 w3 w4 hy M (fun _ q => nomatch q) hf hl hc hs hsize hlen hlen' hstk hW hd fun v T' h' X' _ hv => by
    obtain ⟨hv, hh⟩ := hv
    rw [hv]; rw [hh] at X'
    exact k T' X'
theorem own_callVP (as : List Value) {val : Value} {a : Addr} (X : own_S p l e R s m args below meth c n0 h0 ws T h cells slots) (hx : p.tables.exec = Jvm.exec) (hZ : Z.Warmed39 s.vm) (hown : s.vm.findClass own = some m.cls)
    (w1 : (Jvm.Cond.methodLink own index y).before a0 Z = true) (w2 : (Jvm.Cond.declares y).before a0 Z = true) (w3 : (Jvm.Cond.selects y.cls y y).before a0 Z = true) (w5 : (Jvm.Cond.instanceMethod y).before a0 Z = true) (w6 : (Jvm.Cond.initialized y.cls).before a0 Z = true) (w4 : (Jvm.Cond.code y bytes maxL ret).before a0 Z = true) (hy : y.cls ≠ "java/lang/invoke/MethodHandle" ∧ y.cls ≠ "java/lang/invoke/VarHandle")
    (E : Exa Z h a y.cls)
    (M : own_M l y bytes maxL ret [] rm Z (Value.ref a :: as).toArray h (own_Q n0 h [] (own_P val h)))
    (hf : rm.frames + 1 ≤ R.frames) (hl : W + (maxL + 11) + rm.locals ≤ R.locals) (hc : cells + rm.cells ≤ R.cells) (hs : slots + rm.slots ≤ R.slots) (hsize : Ls.size = c.maxLocals)
    (hlen : parseMethodDescriptor y.desc = some ⟨ps, r⟩) (hlen' : as.length = ps.length) (hstk : stk = as.reverse ++ .ref a :: rest) (hW : (rest.map fun v => v.category).sum ≤ W) (hd : decode c.code pc = .ok (.invokevirtual index, 3))
    (k : ∀ T', own_S p l e R s m args below meth c n0 h0 ws T' h (cells + rm.cells) (slots + rm.slots) → own_G p e below G T' (mkF m (pc + 3) Ls (val :: rest))) :
    own_G p e below G T (mkF m pc Ls stk) :=
  own_callV as X hx hZ hown w1 w2 w3 w5 w6 w4 hy E M (fun _ q => nomatch q) hf hl hc hs hsize hlen hlen' hstk hW hd fun v T' h' X' _ hv => by
    obtain ⟨hv, hh⟩ := hv
    rw [hv]; rw [hh] at X'
    exact k T' X'
theorem own_irem {x z : Int32} (X : own_S p l e R s m args below meth c n0 h0 ws T h cells slots) (hx : p.tables.exec = Jvm.exec) (hd : decode c.code pc = .ok (.irem, 1)) (hz : z ≠ 0)
    (k : own_G p e below G T (mkF m (pc + 1) Ls (.int (x % z) :: rest))) : own_G p e below G T (mkF m pc Ls (.int z :: .int x :: rest)) :=
  own_st (fun t k => XS.irem X.her hx rfl hd rfl hz (by rw [irem_eq_mod]; exact k)) k
theorem own_lrem {x z : Int64} (X : own_S p l e R s m args below meth c n0 h0 ws T h cells slots) (hx : p.tables.exec = Jvm.exec) (hd : decode c.code pc = .ok (.lrem, 1)) (hz : z ≠ 0)
    (k : own_G p e below G T (mkF m (pc + 1) Ls (.long (x % z) :: rest))) : own_G p e below G T (mkF m pc Ls (.long z :: .long x :: rest)) :=
  own_st (fun t k => XS.lrem X.her hx rfl hd rfl hz (by rw [lrem_mod]; exact k)) k
theorem own_b2 (x : Int32) : x.toInt8.toInt32.toInt8.toInt32 = x.toInt8.toInt32 := by simp
end Calls
section Heap
variable {own : String} {index : Nat} {G : Outcome → State → Prop} {pc : Nat} {Ls : Array Slot} {rest : List Value}
theorem own_ldcI {v : Int32} (X : own_S p l e R s m args below meth c n0 h0 ws T h cells slots) (hx : p.tables.exec = Jvm.exec) (hZ : Z.Warmed39 s.vm) (hown : s.vm.findClass own = some m.cls) (w : (Jvm.Cond.constant own index v).before a0 Z = true) (hd : decode c.code pc = .ok (.ldc index, 2))
    (k : own_G p e below G T (mkF m (pc + 2) Ls (.int v :: rest))) : own_G p e below G T (mkF m pc Ls rest) := by
  obtain ⟨⟨locs, X, N⟩, e0, K⟩ := X
  exact own_st (X.ldcInt hx hown (mvT hZ w) (g := mkF m pc Ls rest) rfl hd) k
theorem own_ldcL {v : Int64} (X : own_S p l e R s m args below meth c n0 h0 ws T h cells slots) (hx : p.tables.exec = Jvm.exec) (hZ : Z.Warmed39 s.vm) (hown : s.vm.findClass own = some m.cls) (w : (Jvm.Cond.constantLong own index v).before a0 Z = true) (hd : decode c.code pc = .ok (.ldc2_w index, 3))
    (k : own_G p e below G T (mkF m (pc + 3) Ls (.long v :: rest))) : own_G p e below G T (mkF m pc Ls rest) := by
  obtain ⟨⟨locs, X, N⟩, e0, K⟩ := X
  exact own_st (X.ldc2Long hx hown (mvT hZ w) (g := mkF m pc Ls rest) rfl hd) k
theorem own_getF {a : Addr} {C n d : String} {v : Value} (X : own_S p l e R s m args below meth c n0 h0 ws T h cells slots) (hx : p.tables.exec = Jvm.exec) (hZ : Z.Warmed39 s.vm) (hown : s.vm.findClass own = some m.cls) (w : (Jvm.Cond.fieldLink own index C n d).before a0 Z = true) (F : Fld Z h a C n d v) (hd : decode c.code pc = .ok (.getfield index, 3))
    (k : ∀ T', own_S p l e R s m args below meth c n0 h0 ws T' h cells slots → own_G p e below G T' (mkF m (pc + 3) Ls (v :: rest))) : own_G p e below G T (mkF m pc Ls (.ref a :: rest)) := by
  obtain ⟨⟨locs, X, N⟩, e0, K⟩ := X
  obtain ⟨T1, X1, e1, st⟩ := getF X hx hZ hown (host := "") (Or.inl w) Via.refl e0 F (g := mkF m pc Ls (.ref a :: rest)) rfl rfl hd
  exact own_st st (k T1 ⟨⟨_, X1, N⟩, e1, K⟩)
theorem own_getS {C n d : String} {v : Value} (X : own_S p l e R s m args below meth c n0 h0 ws T h cells slots) (hx : p.tables.exec = Jvm.exec) (hZ : Z.Warmed39 s.vm) (hown : s.vm.findClass own = some m.cls) (w : (Jvm.Cond.fieldLink own index C n d).before a0 Z = true) (F : Sta Z h C n d v) (hd : decode c.code pc = .ok (.getstatic index, 3))
    (k : ∀ T', own_S p l e R s m args below meth c n0 h0 ws T' h cells slots → own_G p e below G T' (mkF m (pc + 3) Ls (v :: rest))) : own_G p e below G T (mkF m pc Ls rest) := by
  obtain ⟨⟨locs, X, N⟩, e0, K⟩ := X
  obtain ⟨T1, X1, e1, st⟩ := getS2 X hx hZ hown (host := "") (Or.inl w) Via.refl e0 F (g := mkF m pc Ls rest) rfl hd
  exact own_st st (k T1 ⟨⟨_, X1, N⟩, e1, K⟩)
theorem own_putF {a : Addr} {C n d : String} {v old : Value} {kk : Nat} {ty : FieldType} (X : own_S p l e R s m args below meth c n0 h0 ws T h cells slots) (hx : p.tables.exec = Jvm.exec) (hZ : Z.Warmed39 s.vm) (hown : s.vm.findClass own = some m.cls) (w : (Jvm.Cond.fieldLink own index C n d).before a0 Z = true) (F : Fld Z h a C n d old) (E : Exa Z h a C)
    (L : (Jvm.Cond.lays C C n d).before a0 Z = true ∨ ((Jvm.Cond.laysFinal C C n d).before a0 Z = true ∧ own = C ∧ meth.name = "<init>")) (wi : (Jvm.Cond.instantiable C kk).before a0 Z = true) (hty : parseFieldDescriptor d = some ty) (hn : narrow ty v = v) (hf : fits ty v = true) (hd : decode c.code pc = .ok (.putfield index, 3)) (ga : n0 ≤ a) (qa : a ∈ ws ∨ h0.size ≤ a)
    (k : ∀ T' h', own_S p l e R s m args below meth c n0 h0 ws T' h' cells slots → Wr h h' a (Jvm.RoadKit.slotOf Z C n d) v → Fld Z h' a C n d v → Exa Z h' a C → own_G p e below G T' (mkF m (pc + 3) Ls rest)) : own_G p e below G T (mkF m pc Ls (v :: .ref a :: rest)) := by
  obtain ⟨⟨locs, X, N⟩, e0, K⟩ := X
  obtain ⟨T1, h1, X1, e1, W1, st⟩ := putF X hx hZ hown (host := "") (Or.inl w) Via.refl e0 F E L wi hty hn hf (g := mkF m pc Ls (v :: .ref a :: rest)) rfl rfl hd
  exact own_st st (k T1 h1 ⟨⟨_, X1, Fr.snoc X1 N ga⟩, e1, K.wr W1 qa⟩ W1 (F.same W1) (E.wr W1))
theorem own_newO {C : String} {kk : Nat} (X : own_S p l e R s m args below meth c n0 h0 ws T h cells slots) (hx : p.tables.exec = Jvm.exec) (hZ : Z.Warmed39 s.vm) (hown : s.vm.findClass own = some m.cls) (w : (Jvm.Cond.classLink own index C).before a0 Z = true) (wi : (Jvm.Cond.instantiable C kk).before a0 Z = true) (wz : (Jvm.Cond.initialized C).before a0 Z = true) (hd : decode c.code pc = .ok (.new index, 3)) (hc : cells + 1 ≤ R.cells) (hl : slots + kk ≤ R.slots)
    (k : ∀ T' h' (b : Addr), b = h.size → h0.size ≤ b → own_S p l e R s m args below meth c n0 h0 ws T' h' (cells + 1) (slots + kk) → Ext h h' → Exa Z h' b C → (∀ {O nm d : String} {ty : FieldType}, Laid Z a0 C O nm d → parseFieldDescriptor d = some ty → Fld Z h' b O nm d (defaultValue ty)) → own_G p e below G T' (mkF m (pc + 3) Ls (.ref b :: rest))) : own_G p e below G T (mkF m pc Ls rest) := by
  obtain ⟨⟨locs, X, N⟩, e0, K⟩ := X
  obtain ⟨T1, h1, X1, e1, E1, A1, D1, -, st⟩ := newO X hx hZ hown w wi wz e0 (g := mkF m pc Ls rest) rfl hd hc hl
  exact own_st st (k T1 h1 _ rfl K.1 ⟨⟨_, X1, N⟩, e1, K.ext E1⟩ E1 A1 D1)
/-- a byte array with these elements -/
def own_B (Z : State) (h : Heap) (a : Addr) (L : List Int32) : Prop := ∃ c : Cell, Arr Z h a c .byte ∧ c.slots = (L.map Value.int).toArray
theorem own_B.lt {a : Addr} {L : List Int32} (B : own_B Z h a L) : a < h.size := by obtain ⟨c, A, _⟩ := B; exact A.lt
theorem own_B.ext {a : Addr} {L : List Int32} (B : own_B Z h a L) (E : Ext h h') : own_B Z h' a L := by obtain ⟨c, A, q⟩ := B; exact ⟨c, A.ext E, q⟩
theorem own_B.other {a b : Addr} {L : List Int32} {sl : Nat} {v : Value} (B : own_B Z h b L) (W : Wr h h' a sl v) (q : b ≠ a) : own_B Z h' b L := by obtain ⟨c, A, r⟩ := B; exact ⟨c, A.other W q, r⟩
theorem own_B.keep {a : Addr} {L : List Int32} (B : own_B Z h a L) (K : Keep h h' ws) (q : a ∉ ws) : own_B Z h' a L := by obtain ⟨c, A, r⟩ := B; exact ⟨c, ⟨K.2.1 a c A.1 q, A.2⟩, r⟩
theorem own_bload {a : Addr} {L : List Int32} {j v : Int32} (X : own_S p l e R s m args below meth c n0 h0 ws T h cells slots) (hx : p.tables.exec = Jvm.exec) (hZ : Z.Warmed39 s.vm) (B : own_B Z h a L) (hj : ¬ j < 0) (hv : L[j.toNatClampNeg]? = some v) (hd : decode c.code pc = .ok (.baload, 1))
    (k : own_G p e below G T (mkF m (pc + 1) Ls (.int v :: rest))) : own_G p e below G T (mkF m pc Ls (.int j :: .ref a :: rest)) := by
  obtain ⟨⟨locs, X, N⟩, e0, K⟩ := X
  obtain ⟨cl, A, q⟩ := B
  have h1 : cl.slots[j.toNatClampNeg]? = some (.int v) := by rw [q]; simp [hv]
  have h2 : ¬ (j < 0 ∨ cl.slots.size ≤ j.toNatClampNeg) := fun z => z.elim hj fun z => by
    have := (Array.getElem?_eq_some_iff.mp h1).1
    omega
  exact own_st (X.baloadBytes hx (j := j) (v := .int v) (by rw [e0]; exact A.1) (State.isArrayOf_alike hZ.alike A.2.1) A.2.2 h2 h1 (g := mkF m pc Ls (.int j :: .ref a :: rest)) rfl rfl hd) k
theorem own_bstore {a : Addr} {L : List Int32} {j x : Int32} (X : own_S p l e R s m args below meth c n0 h0 ws T h cells slots) (hx : p.tables.exec = Jvm.exec) (hZ : Z.Warmed39 s.vm) (B : own_B Z h a L) (hj : ¬ j < 0) (hv : j.toNatClampNeg < L.length) (hd : decode c.code pc = .ok (.bastore, 1)) (ga : n0 ≤ a) (qa : a ∈ ws ∨ h0.size ≤ a)
    (k : ∀ T' h', own_S p l e R s m args below meth c n0 h0 ws T' h' cells slots → Keep h h' [a] → Wr h h' a j.toNatClampNeg (.int (nar .byte x)) → own_B Z h' a (L.set j.toNatClampNeg x.toInt8.toInt32) → own_G p e below G T' (mkF m (pc + 1) Ls rest)) : own_G p e below G T (mkF m pc Ls (.int x :: .int j :: .ref a :: rest)) := by
  obtain ⟨⟨locs, X, N⟩, e0, K⟩ := X
  obtain ⟨cl, A, q⟩ := B
  have h2 : ¬ (j < 0 ∨ cl.slots.size ≤ j.toNatClampNeg) := fun z => z.elim hj fun z => by
    rw [q] at z
    simp at z
    omega
  obtain ⟨T1, h1, X1, e1, W1, st⟩ := stB X hx hZ e0 A (j := j) (x := x) h2 (g := mkF m pc Ls (.int x :: .int j :: .ref a :: rest)) rfl rfl hd
  refine own_st st (k T1 h1 ⟨⟨_, X1, Fr.snoc X1 N ga⟩, e1, K.wr W1 qa⟩ (Keep.of_wr W1) W1 ⟨_, A.same W1, ?_⟩)
  show (cl.slots.setIfInBounds j.toNatClampNeg _) = _
  rw [q]
  simp [nar]
theorem own_newB {n : Int32} {kk : Nat} (X : own_S p l e R s m args below meth c n0 h0 ws T h cells slots) (hx : p.tables.exec = Jvm.exec) (hZ : Z.Warmed39 s.vm) (w : (Jvm.Cond.arrayClass .byte).before a0 Z = true) (hn : ¬ n < 0) (hk : n.toNatClampNeg = kk) (hb : kk * 8 ≤ 536870912) (hc : cells + 1 ≤ R.cells) (hl : slots + kk ≤ R.slots) (hd : decode c.code pc = .ok (.newarray .byte, 2))
    (k : ∀ T' h' (b : Addr), b = h.size → h0.size ≤ b → own_S p l e R s m args below meth c n0 h0 ws T' h' (cells + 1) (slots + kk) → Ext h h' → own_B Z h' b (List.replicate kk 0) → own_G p e below G T' (mkF m (pc + 2) Ls (.ref b :: rest))) : own_G p e below G T (mkF m pc Ls (.int n :: rest)) := by
  obtain ⟨⟨locs, X, N⟩, e0, K⟩ := X
  obtain ⟨T1, h1, cA, X1, e1, E1, A1, st⟩ := newP X hx hZ (aty := .byte) w e0 (g := mkF m pc Ls (.int n :: rest)) rfl hd rfl hn (cap := kk) (Nat.le_of_eq hk) hb hc hl
  refine own_st st (k T1 h1 _ rfl K.1 ⟨⟨_, X1, N⟩, e1, K.ext E1⟩ E1 ⟨_, A1, ?_⟩)
  show Array.replicate n.toNatClampNeg (defaultValue .byte) = _
  rw [hk]
  simp [defaultValue]
end Heap
end Own
theorem own_w0 {Z : State} {a0 : Array Value} (hw : ∀ d ∈ tables_1, d.before a0 Z = true) : (Jvm.Cond.constant "com/example/studyferry/studyferry/dicom/DicomInputSwapPinLaw" (7 : Nat) (2147483647 : Int32)).before a0 Z = true := hw _ (List.mem_of_getElem? (i := 0) rfl)
theorem own_w1 {Z : State} {a0 : Array Value} (hw : ∀ d ∈ tables_1, d.before a0 Z = true) : (Jvm.Cond.arrayClass Jvm.ClassFile.FieldType.byte).before a0 Z = true := hw _ (List.mem_of_getElem? (i := 1) rfl)
theorem own_w2 {Z : State} {a0 : Array Value} (hw : ∀ d ∈ tables_1, d.before a0 Z = true) : (Jvm.Cond.methodLink "com/example/studyferry/studyferry/dicom/DicomInputSwapPinLaw" (8 : Nat) ({ cls := "com/example/studyferry/studyferry/dicom/DicomInputSwapPinLaw", name := "at", desc := "(JI)B" } : Jvm.MethodName)).before a0 Z = true := hw _ (List.mem_of_getElem? (i := 2) rfl)
theorem own_w3 {Z : State} {a0 : Array Value} (hw : ∀ d ∈ tables_1, d.before a0 Z = true) : (Jvm.Cond.static ({ cls := "com/example/studyferry/studyferry/dicom/DicomInputSwapPinLaw", name := "at", desc := "(JI)B" } : Jvm.MethodName)).before a0 Z = true := hw _ (List.mem_of_getElem? (i := 3) rfl)
theorem own_w4 {Z : State} {a0 : Array Value} (hw : ∀ d ∈ tables_1, d.before a0 Z = true) : (Jvm.Cond.initialized "com/example/studyferry/studyferry/dicom/DicomInputSwapPinLaw").before a0 Z = true := hw _ (List.mem_of_getElem? (i := 4) rfl)
theorem own_w5 {Z : State} {a0 : Array Value} (hw : ∀ d ∈ tables_1, d.before a0 Z = true) : (Jvm.Cond.code ({ cls := "com/example/studyferry/studyferry/dicom/DicomInputSwapPinLaw", name := "at", desc := "(JI)B" } : Jvm.MethodName) method_2_code (3 : Nat) (Option.some Jvm.ClassFile.FieldType.byte)).before a0 Z = true := hw _ (List.mem_of_getElem? (i := 5) rfl)
theorem own_w6 {Z : State} {a0 : Array Value} (hw : ∀ d ∈ tables_1, d.before a0 Z = true) : (Jvm.Cond.methodLink "com/example/studyferry/studyferry/dicom/DicomInputSwapPinLaw" (14 : Nat) ({ cls := "com/example/studyferry/studyferry/dicom/DicomInput", name := "swap", desc := "([BII)V" } : Jvm.MethodName)).before a0 Z = true := hw _ (List.mem_of_getElem? (i := 6) rfl)
theorem own_w7 {Z : State} {a0 : Array Value} (hw : ∀ d ∈ tables_1, d.before a0 Z = true) : (Jvm.Cond.static ({ cls := "com/example/studyferry/studyferry/dicom/DicomInput", name := "swap", desc := "([BII)V" } : Jvm.MethodName)).before a0 Z = true := hw _ (List.mem_of_getElem? (i := 7) rfl)
theorem own_w8 {Z : State} {a0 : Array Value} (hw : ∀ d ∈ tables_1, d.before a0 Z = true) : (Jvm.Cond.initialized "com/example/studyferry/studyferry/dicom/DicomInput").before a0 Z = true := hw _ (List.mem_of_getElem? (i := 8) rfl)
theorem own_w9 {Z : State} {a0 : Array Value} (hw : ∀ d ∈ tables_1, d.before a0 Z = true) : (Jvm.Cond.code ({ cls := "com/example/studyferry/studyferry/dicom/DicomInput", name := "swap", desc := "([BII)V" } : Jvm.MethodName) prog_20_method_44_code (7 : Nat) (Option.none : Option Jvm.ClassFile.FieldType)).before a0 Z = true := hw _ (List.mem_of_getElem? (i := 9) rfl)
theorem own_w10 {Z : State} {a0 : Array Value} (hw : ∀ d ∈ tables_1, d.before a0 Z = true) : (Jvm.Cond.methodLink "com/example/studyferry/studyferry/dicom/DicomInputSwapPinLaw" (20 : Nat) ({ cls := "com/example/studyferry/studyferry/dicom/DicomInputSwapPinLaw", name := "expected", desc := "([BIII)B" } : Jvm.MethodName)).before a0 Z = true := hw _ (List.mem_of_getElem? (i := 10) rfl)
theorem own_w11 {Z : State} {a0 : Array Value} (hw : ∀ d ∈ tables_1, d.before a0 Z = true) : (Jvm.Cond.static ({ cls := "com/example/studyferry/studyferry/dicom/DicomInputSwapPinLaw", name := "expected", desc := "([BIII)B" } : Jvm.MethodName)).before a0 Z = true := hw _ (List.mem_of_getElem? (i := 11) rfl)
theorem own_w12 {Z : State} {a0 : Array Value} (hw : ∀ d ∈ tables_1, d.before a0 Z = true) : (Jvm.Cond.code ({ cls := "com/example/studyferry/studyferry/dicom/DicomInputSwapPinLaw", name := "expected", desc := "([BIII)B" } : Jvm.MethodName) method_3_code (6 : Nat) (Option.some Jvm.ClassFile.FieldType.byte)).before a0 Z = true := hw _ (List.mem_of_getElem? (i := 12) rfl)
theorem own_pd0 : parseMethodDescriptor "(JI)B" = some ⟨[.long, .int], some .byte⟩ := by decide +kernel
theorem own_pn0 : plainName "com/example/studyferry/studyferry/dicom/DicomInputSwapPinLaw" = true := by first | (simp [plainName, overriddenIn]; done) | decide +kernel
theorem own_pd1 : parseMethodDescriptor "([BII)V" = some ⟨[(.array .byte), .int, .int], none⟩ := by decide +kernel
theorem own_pn1 : plainName "com/example/studyferry/studyferry/dicom/DicomInput" = true := by first | (simp [plainName, overriddenIn]; done) | decide +kernel
theorem own_pd2 : parseMethodDescriptor "([BIII)B" = some ⟨[(.array .byte), .int, .int, .int], some .byte⟩ := by decide +kernel
theorem own_pd3 : parseMethodDescriptor "(JII)Z" = some ⟨[.long, .int, .int], some .boolean⟩ := by decide +kernel
theorem d1_0 : decode method_2_code 0 = .ok (.lload_n 0, 1) := by decide +kernel
theorem d1_1 : decode method_2_code 1 = .ok (.bipush 8, 2) := by decide +kernel
theorem d1_3 : decode method_2_code 3 = .ok (.iload_n 2, 1) := by decide +kernel
theorem d1_4 : decode method_2_code 4 = .ok (.imul, 1) := by decide +kernel
theorem d1_5 : decode method_2_code 5 = .ok (.lushr, 1) := by decide +kernel
theorem d1_6 : decode method_2_code 6 = .ok (.l2i, 1) := by decide +kernel
theorem d1_7 : decode method_2_code 7 = .ok (.i2b, 1) := by decide +kernel
theorem d1_8 : decode method_2_code 8 = .ok (.ireturn, 1) := by decide +kernel
/-- what the body returns -/
def own_F1 (q0 : Int64) (p1 : Int32) : Int32 :=
  ((((q0.toUInt64 >>> (((8 : Int32) * p1) &&& 0x3f).toInt64.toUInt64).toInt64).toInt32).toInt8.toInt32)
theorem own_ef1 (m : MethodId) (q0 : Int64) (p1 : Int32) : entryFrame m #[(.long q0), (.int p1)] 3 = mkF m 0 #[.val (.long q0), .second, .val (.int p1)] [] := by first | (simp [entryFrame, mkF, argsToLocals, Value.category]; done) | rfl
set_option maxRecDepth 65536 in
set_option maxHeartbeats 40000000 in
theorem own_c1 (l : Launch) (Z : State) (a0 : Array Value) (hw : ∀ d ∈ tables_1, d.before a0 Z = true) (h0 : Heap) (n0 : Nat) (Z0 : n0 ≤ h0.size) (q0 : Int64) (p1 : Int32) :
    own_M l (⟨"com/example/studyferry/studyferry/dicom/DicomInputSwapPinLaw", "at", "(JI)B"⟩ : MethodName) method_2_code 3 (some .byte) [] ({ frames := 0, cells := 0, slots := 0, locals := 0 } : Room) Z #[(.long q0), (.int p1)] h0 (own_Q n0 h0 [] (own_P (.int (own_F1 q0 p1)) h0)) := by
  refine own_body (plainFor_of_name own_pn0) ?_
  intro p e s m below meth c T0 X0 hx hby hml hown hnm hret hlk hZ
  refine own_cast (own_ef1 m q0 p1) ?_
  refine own_st (f' := (mkF m 1 #[.val (.long q0), .second, .val (.int p1)] [(.long q0)])) (fun t k => XS.lloadN X0.her hx rfl (hb hby d1_0) rfl k) ?_
  refine own_st (f' := (mkF m 3 #[.val (.long q0), .second, .val (.int p1)] [(.int (8 : Int32)), (.long q0)])) (fun t k => XS.bipush X0.her hx rfl (hb hby d1_1) k) ?_
  refine own_st (f' := (mkF m 4 #[.val (.long q0), .second, .val (.int p1)] [(.int p1), (.int (8 : Int32)), (.long q0)])) (fun t k => XS.iloadN X0.her hx rfl (hb hby d1_3) rfl k) ?_
  refine own_st (f' := (mkF m 5 #[.val (.long q0), .second, .val (.int p1)] [(.int ((8 : Int32) * p1)), (.long q0)])) (fun t k => XS.imul X0.her hx rfl (hb hby d1_4) rfl k) ?_
  refine own_st (f' := (mkF m 6 #[.val (.long q0), .second, .val (.int p1)] [(.long ((q0.toUInt64 >>> (((8 : Int32) * p1) &&& 0x3f).toInt64.toUInt64).toInt64))])) (fun t k => XS.lushr X0.her hx rfl (hb hby d1_5) rfl k) ?_
  refine own_st (f' := (mkF m 7 #[.val (.long q0), .second, .val (.int p1)] [(.int (((q0.toUInt64 >>> (((8 : Int32) * p1) &&& 0x3f).toInt64.toUInt64).toInt64).toInt32))])) (fun t k => XS.l2i X0.her hx rfl (hb hby d1_6) rfl k) ?_
  refine own_st (f' := (mkF m 8 #[.val (.long q0), .second, .val (.int p1)] [(.int ((((q0.toUInt64 >>> (((8 : Int32) * p1) &&& 0x3f).toInt64.toUInt64).toInt64).toInt32).toInt8.toInt32))])) (fun t k => XS.i2b X0.her hx rfl (hb hby d1_7) rfl k) ?_
  refine own_retN (t := .byte) X0 hx hret hlk (by simp) (hb hby d1_8) (by first | decide | omega) (by first | decide | omega) ?_
  exact ⟨congrArg (fun q => some (Value.int q)) (by unfold own_F1; first | done | exact own_b2 _), rfl⟩
def own_sl (o : Option Int32) : Slot := match o with | none => .unset | some z => .val (.int z)
/-- the inner loop: the two ends change places, at most k times -/
def own_rev {α : Type} (d : α) : Nat → Int32 → Int32 → List α → List α
  | 0, _, _, L => L
  | k + 1, x, y, L => if x < y then own_rev d k (x + 1) (y + (-1)) ((L.set x.toNatClampNeg (L.getD y.toNatClampNeg d)).set y.toNatClampNeg (L.getD x.toNatClampNeg d)) else L
def own_out {α : Type} (d : α) (n s : Int32) : Nat → Int32 → List α → List α
  | 0, _, L => L
  | k + 1, a, L => if n < a + s then L else own_out d n s k (a + s) (own_rev d 8 a (a + s - 1) L)
def own_hB (L : List Int32) : Prop := ∀ i, (L.getD i 0).toInt8.toInt32 = L.getD i 0
theorem own_hB_set {L : List Int32} (hB : own_hB L) (n : Nat) {v : Int32} (hv : v.toInt8.toInt32 = v) : own_hB (L.set n v) := by
  intro i
  have hi := hB i
  have e1 : (L.set n v).getD i 0 = if n = i then (if i < L.length then v else 0) else L.getD i 0 := by
    rw [List.getD_eq_getElem?_getD, List.getElem?_set, List.getD_eq_getElem?_getD]
    by_cases e : n = i
    · subst e
      by_cases f : n < L.length
      · simp [f]
      · simp [f]
    · simp [e]
  rw [e1]
  split
  · split
    · exact hv
    · rfl
  · exact hi
theorem own_rev_len {α : Type} (d : α) (k : Nat) (x y : Int32) (L : List α) : (own_rev d k x y L).length = L.length := by
  induction k generalizing x y L with
  | zero => rfl
  | succ k ih =>
    simp only [own_rev]
    split
    · rw [ih]; simp
    · rfl
theorem own_out_len {α : Type} (d : α) (n s : Int32) (k : Nat) (a : Int32) (L : List α) : (own_out d n s k a L).length = L.length := by
  induction k generalizing a L with
  | zero => rfl
  | succ k ih =>
    simp only [own_out]
    split
    · rfl
    · rw [ih, own_rev_len]
theorem own_rev_hB (k : Nat) (x y : Int32) (L : List Int32) (hB : own_hB L) : own_hB (own_rev 0 k x y L) := by
  induction k generalizing x y L with
  | zero => exact hB
  | succ k ih =>
    simp only [own_rev]
    split
    · exact ih _ _ _ (own_hB_set (own_hB_set hB _ (hB _)) _ (hB _))
    · exact hB
theorem own_gd (L : List Int32) (n : Nat) (h : n < L.length) : L[n]? = some (L.getD n 0) := by
  rw [List.getD_eq_getElem?_getD, List.getElem?_eq_getElem h]; rfl
theorem d2_19 : decode prog_20_method_44_code 19 = .ok (.iload 4, 2) := by decide +kernel
theorem d2_21 : decode prog_20_method_44_code 21 = .ok (.iload 5, 2) := by decide +kernel
theorem d2_23 : decode prog_20_method_44_code 23 = .ok (.if_icmp .ge 32, 3) := by decide +kernel
theorem d2_26 : decode prog_20_method_44_code 26 = .ok (.aload_n 0, 1) := by decide +kernel
theorem d2_27 : decode prog_20_method_44_code 27 = .ok (.iload 4, 2) := by decide +kernel
theorem d2_29 : decode prog_20_method_44_code 29 = .ok (.baload, 1) := by decide +kernel
theorem d2_30 : decode prog_20_method_44_code 30 = .ok (.istore 6, 2) := by decide +kernel
theorem d2_32 : decode prog_20_method_44_code 32 = .ok (.aload_n 0, 1) := by decide +kernel
theorem d2_33 : decode prog_20_method_44_code 33 = .ok (.iload 4, 2) := by decide +kernel
theorem d2_35 : decode prog_20_method_44_code 35 = .ok (.aload_n 0, 1) := by decide +kernel
theorem d2_36 : decode prog_20_method_44_code 36 = .ok (.iload 5, 2) := by decide +kernel
theorem d2_38 : decode prog_20_method_44_code 38 = .ok (.baload, 1) := by decide +kernel
theorem d2_39 : decode prog_20_method_44_code 39 = .ok (.bastore, 1) := by decide +kernel
theorem d2_40 : decode prog_20_method_44_code 40 = .ok (.aload_n 0, 1) := by decide +kernel
theorem d2_41 : decode prog_20_method_44_code 41 = .ok (.iload 5, 2) := by decide +kernel
theorem d2_43 : decode prog_20_method_44_code 43 = .ok (.iload 6, 2) := by decide +kernel
theorem d2_45 : decode prog_20_method_44_code 45 = .ok (.bastore, 1) := by decide +kernel
theorem d2_46 : decode prog_20_method_44_code 46 = .ok (.iinc 4 1, 3) := by decide +kernel
theorem d2_49 : decode prog_20_method_44_code 49 = .ok (.iinc 5 (-1), 3) := by decide +kernel
theorem d2_52 : decode prog_20_method_44_code 52 = .ok (.goto (-33), 3) := by decide +kernel
set_option maxRecDepth 65536 in
set_option maxHeartbeats 40000000 in
theorem own_li {p : Program} {l : Launch} {e : Env} {R : Room} {s : State} {m : MethodId} {args : Array Value} {below : List Frame} {meth : Method} {c : Code} {Z : State} {a0 : Array Value} {n0 : Nat} {C S : Nat} (hw : ∀ d ∈ tables_1, d.before a0 Z = true) (hx : p.tables.exec = Jvm.exec) (hby : c.code = prog_20_method_44_code) (hml : c.maxLocals = 7) (hown : s.vm.findClass "com/example/studyferry/studyferry/dicom/DicomInput" = some m.cls) (hret : meth.sig.returnType = none) (hlk : meth.locks = false) (hZ : Z.Warmed39 s.vm) {h0 : Heap} {G : Outcome → State → Prop} (r0 : Addr) (p1 p2 a : Int32) (g0 : n0 ≤ r0) :
    ∀ (k : Nat) (x y : Int32) (o6 : Option Int32) (T0 : State) (h : Heap) (L : List Int32), own_S p l e R s m args below meth c n0 h0 [r0] T0 h 0 0 → own_B Z h r0 L → own_hB L → L.length = 8 → 0 ≤ x.toInt → y.toInt ≤ 7 → y.toInt - x.toInt ≤ 2 * (k : Int) → (∀ (x' y' : Int32) (o' : Option Int32) (T' : State) (h' : Heap), own_S p l e R s m args below meth c n0 h0 [r0] T' h' 0 0 → own_B Z h' r0 (own_rev 0 k x y L) → own_G p e below G T' (mkF m 55 #[.val (.ref r0), .val (.int p1), .val (.int p2), .val (.int a), .val (.int x'), .val (.int y'), (own_sl o')] [])) → own_G p e below G T0 (mkF m 19 #[.val (.ref r0), .val (.int p1), .val (.int p2), .val (.int a), .val (.int x), .val (.int y), (own_sl o6)] []) := by
  intro k
  induction k with
  | zero =>
    intro x y o6 T0 h L X0 B0 hB hlen hx0 hy7 hk kt
    have hge : ¬ x < y := by rw [Int32.lt_iff_toInt_lt]; omega
    refine own_st (f' := (mkF m 21 #[.val (.ref r0), .val (.int p1), .val (.int p2), .val (.int a), .val (.int x), .val (.int y), (own_sl o6)] [(.int x)])) (fun t k => XS.iload X0.her hx rfl (hb hby d2_19) rfl k) ?_
    refine own_st (f' := (mkF m 23 #[.val (.ref r0), .val (.int p1), .val (.int p2), .val (.int a), .val (.int x), .val (.int y), (own_sl o6)] [(.int y), (.int x)])) (fun t k => XS.iload X0.her hx rfl (hb hby d2_21) rfl k) ?_
    refine own_st (f' := (mkF m 55 #[.val (.ref r0), .val (.int p1), .val (.int p2), .val (.int a), .val (.int x), .val (.int y), (own_sl o6)] [])) (fun t k => XS.icmpYes X0.her hx rfl (pc0 := 23) (pc' := 55) rfl (hb hby d2_23) rfl (flt (hge : ¬ (x < y))).2.1 (by decide) (by decide) k) ?_
    exact kt _ _ o6 _ _ X0 B0
  | succ k ih =>
    intro x y o6 T0 h L X0 B0 hB hlen hx0 hy7 hk kt
    by_cases hlt : x < y
    · have hjx : ¬ x < 0 := by rw [Int32.lt_iff_toInt_lt]; exact Int.not_lt.mpr hx0
      have hjy : ¬ y < 0 := by rw [Int32.lt_iff_toInt_lt] at hlt ⊢; rw [show (0 : Int32).toInt = 0 from rfl]; omega
      have q := Int32.lt_iff_toInt_lt.mp hlt
      have e1 : (x + 1).toInt = x.toInt + 1 := by rw [Jvm.Kit.i32_add (by rw [show (1 : Int32).toInt = 1 from rfl]; omega) (by rw [show (1 : Int32).toInt = 1 from rfl]; omega)]; rfl
      have e2 : (y + (-1)).toInt = y.toInt - 1 := by rw [Jvm.Kit.i32_add (by rw [show (-1 : Int32).toInt = -1 from rfl]; omega) (by rw [show (-1 : Int32).toInt = -1 from rfl]; omega)]; rfl
      have hx' : x.toNatClampNeg = x.toInt.toNat := rfl
      have hy' : y.toNatClampNeg = y.toInt.toNat := rfl
      refine own_st (f' := (mkF m 21 #[.val (.ref r0), .val (.int p1), .val (.int p2), .val (.int a), .val (.int x), .val (.int y), (own_sl o6)] [(.int x)])) (fun t k => XS.iload X0.her hx rfl (hb hby d2_19) rfl k) ?_
      refine own_st (f' := (mkF m 23 #[.val (.ref r0), .val (.int p1), .val (.int p2), .val (.int a), .val (.int x), .val (.int y), (own_sl o6)] [(.int y), (.int x)])) (fun t k => XS.iload X0.her hx rfl (hb hby d2_21) rfl k) ?_
      refine own_st (f' := (mkF m 26 #[.val (.ref r0), .val (.int p1), .val (.int p2), .val (.int a), .val (.int x), .val (.int y), (own_sl o6)] [])) (fun t k => XS.icmpNo X0.her hx rfl (hb hby d2_23) rfl (tlt (hlt : x < y)).2.1 k) ?_
      refine own_st (f' := (mkF m 27 #[.val (.ref r0), .val (.int p1), .val (.int p2), .val (.int a), .val (.int x), .val (.int y), (own_sl o6)] [(.ref r0)])) (fun t k => XS.aloadN X0.her hx rfl (hb hby d2_26) rfl rfl k) ?_
      refine own_st (f' := (mkF m 29 #[.val (.ref r0), .val (.int p1), .val (.int p2), .val (.int a), .val (.int x), .val (.int y), (own_sl o6)] [(.int x), (.ref r0)])) (fun t k => XS.iload X0.her hx rfl (hb hby d2_27) rfl k) ?_
      refine own_bload (v := (L.getD x.toNatClampNeg 0)) X0 hx hZ B0 hjx (own_gd _ _ (by omega)) (hb hby d2_29) ?_
      refine own_st (f' := (mkF m 32 #[.val (.ref r0), .val (.int p1), .val (.int p2), .val (.int a), .val (.int x), .val (.int y), .val (.int (L.getD x.toNatClampNeg 0))] [])) (fun t k => XS.istore X0.her hx rfl (hb hby d2_30) rfl (l' := #[.val (.ref r0), .val (.int p1), .val (.int p2), .val (.int a), .val (.int x), .val (.int y), .val (.int (L.getD x.toNatClampNeg 0))]) (by cases o6 <;> rfl) k) ?_
      refine own_st (f' := (mkF m 33 #[.val (.ref r0), .val (.int p1), .val (.int p2), .val (.int a), .val (.int x), .val (.int y), .val (.int (L.getD x.toNatClampNeg 0))] [(.ref r0)])) (fun t k => XS.aloadN X0.her hx rfl (hb hby d2_32) rfl rfl k) ?_
      refine own_st (f' := (mkF m 35 #[.val (.ref r0), .val (.int p1), .val (.int p2), .val (.int a), .val (.int x), .val (.int y), .val (.int (L.getD x.toNatClampNeg 0))] [(.int x), (.ref r0)])) (fun t k => XS.iload X0.her hx rfl (hb hby d2_33) rfl k) ?_
      refine own_st (f' := (mkF m 36 #[.val (.ref r0), .val (.int p1), .val (.int p2), .val (.int a), .val (.int x), .val (.int y), .val (.int (L.getD x.toNatClampNeg 0))] [(.ref r0), (.int x), (.ref r0)])) (fun t k => XS.aloadN X0.her hx rfl (hb hby d2_35) rfl rfl k) ?_
      refine own_st (f' := (mkF m 38 #[.val (.ref r0), .val (.int p1), .val (.int p2), .val (.int a), .val (.int x), .val (.int y), .val (.int (L.getD x.toNatClampNeg 0))] [(.int y), (.ref r0), (.int x), (.ref r0)])) (fun t k => XS.iload X0.her hx rfl (hb hby d2_36) rfl k) ?_
      refine own_bload (v := (L.getD y.toNatClampNeg 0)) X0 hx hZ B0 hjy (own_gd _ _ (by omega)) (hb hby d2_38) ?_
      refine own_bstore X0 hx hZ B0 hjx (by omega) (hb hby d2_39) g0 (Or.inl (List.mem_cons_self)) ?_
      intro T1 h1 X1 K1 W1 B1
      rw [show ((L.getD y.toNatClampNeg 0)).toInt8.toInt32 = (L.getD y.toNatClampNeg 0) from hB _] at B1
      replace B1 : own_B Z h1 r0 (L.set x.toNatClampNeg (L.getD y.toNatClampNeg 0)) := B1
      refine own_st (f' := (mkF m 41 #[.val (.ref r0), .val (.int p1), .val (.int p2), .val (.int a), .val (.int x), .val (.int y), .val (.int (L.getD x.toNatClampNeg 0))] [(.ref r0)])) (fun t k => XS.aloadN X1.her hx rfl (hb hby d2_40) rfl rfl k) ?_
      refine own_st (f' := (mkF m 43 #[.val (.ref r0), .val (.int p1), .val (.int p2), .val (.int a), .val (.int x), .val (.int y), .val (.int (L.getD x.toNatClampNeg 0))] [(.int y), (.ref r0)])) (fun t k => XS.iload X1.her hx rfl (hb hby d2_41) rfl k) ?_
      refine own_st (f' := (mkF m 45 #[.val (.ref r0), .val (.int p1), .val (.int p2), .val (.int a), .val (.int x), .val (.int y), .val (.int (L.getD x.toNatClampNeg 0))] [(.int (L.getD x.toNatClampNeg 0)), (.int y), (.ref r0)])) (fun t k => XS.iload X1.her hx rfl (hb hby d2_43) rfl k) ?_
      refine own_bstore X1 hx hZ B1 hjy (by rw [List.length_set]; omega) (hb hby d2_45) g0 (Or.inl (List.mem_cons_self)) ?_
      intro T2 h2 X2 K2 W2 B2
      rw [show ((L.getD x.toNatClampNeg 0)).toInt8.toInt32 = (L.getD x.toNatClampNeg 0) from hB _] at B2
      replace B2 : own_B Z h2 r0 ((L.set x.toNatClampNeg (L.getD y.toNatClampNeg 0)).set y.toNatClampNeg (L.getD x.toNatClampNeg 0)) := B2
      refine own_st (f' := (mkF m 49 #[.val (.ref r0), .val (.int p1), .val (.int p2), .val (.int a), .val (.int (x + (1 : Int32))), .val (.int y), .val (.int (L.getD x.toNatClampNeg 0))] [])) (fun t k => XS.iinc X2.her hx rfl (hb hby d2_46) rfl (l' := #[.val (.ref r0), .val (.int p1), .val (.int p2), .val (.int a), .val (.int (x + (1 : Int32))), .val (.int y), .val (.int (L.getD x.toNatClampNeg 0))]) rfl k) ?_
      refine own_st (f' := (mkF m 52 #[.val (.ref r0), .val (.int p1), .val (.int p2), .val (.int a), .val (.int (x + (1 : Int32))), .val (.int (y + (-1 : Int32))), .val (.int (L.getD x.toNatClampNeg 0))] [])) (fun t k => XS.iinc X2.her hx rfl (hb hby d2_49) rfl (l' := #[.val (.ref r0), .val (.int p1), .val (.int p2), .val (.int a), .val (.int (x + (1 : Int32))), .val (.int (y + (-1 : Int32))), .val (.int (L.getD x.toNatClampNeg 0))]) rfl k) ?_
      refine own_st (f' := (mkF m 19 #[.val (.ref r0), .val (.int p1), .val (.int p2), .val (.int a), .val (.int (x + (1 : Int32))), .val (.int (y + (-1 : Int32))), .val (.int (L.getD x.toNatClampNeg 0))] [])) (fun t k => XS.goto X2.her hx rfl (pc0 := 52) (pc' := 19) rfl (hb hby d2_52) (by decide) (by decide) k) ?_
      rw [show own_rev 0 (k + 1) x y L = own_rev 0 k (x + 1) (y + (-1)) ((L.set x.toNatClampNeg (L.getD y.toNatClampNeg 0)).set y.toNatClampNeg (L.getD x.toNatClampNeg 0)) from if_pos hlt] at kt
      exact ih _ _ (some (L.getD x.toNatClampNeg 0)) _ _ _ X2 B2 (own_hB_set (own_hB_set hB _ (hB _)) _ (hB _)) (by simpa using hlen) (by omega) (by omega) (by omega) kt
    · have hge : ¬ x < y := hlt
      refine own_st (f' := (mkF m 21 #[.val (.ref r0), .val (.int p1), .val (.int p2), .val (.int a), .val (.int x), .val (.int y), (own_sl o6)] [(.int x)])) (fun t k => XS.iload X0.her hx rfl (hb hby d2_19) rfl k) ?_
      refine own_st (f' := (mkF m 23 #[.val (.ref r0), .val (.int p1), .val (.int p2), .val (.int a), .val (.int x), .val (.int y), (own_sl o6)] [(.int y), (.int x)])) (fun t k => XS.iload X0.her hx rfl (hb hby d2_21) rfl k) ?_
      refine own_st (f' := (mkF m 55 #[.val (.ref r0), .val (.int p1), .val (.int p2), .val (.int a), .val (.int x), .val (.int y), (own_sl o6)] [])) (fun t k => XS.icmpYes X0.her hx rfl (pc0 := 23) (pc' := 55) rfl (hb hby d2_23) rfl (flt (hge : ¬ (x < y))).2.1 (by decide) (by decide) k) ?_
      rw [show own_rev 0 (k + 1) x y L = L from if_neg hge] at kt
      exact kt _ _ o6 _ _ X0 B0
theorem d2_2 : decode prog_20_method_44_code 2 = .ok (.iload_n 3, 1) := by decide +kernel
theorem d2_3 : decode prog_20_method_44_code 3 = .ok (.iload_n 2, 1) := by decide +kernel
theorem d2_4 : decode prog_20_method_44_code 4 = .ok (.iadd, 1) := by decide +kernel
theorem d2_5 : decode prog_20_method_44_code 5 = .ok (.iload_n 1, 1) := by decide +kernel
theorem d2_6 : decode prog_20_method_44_code 6 = .ok (.if_icmp .gt 56, 3) := by decide +kernel
theorem d2_62 : decode prog_20_method_44_code 62 = .ok (.return_, 1) := by decide +kernel
theorem d2_9 : decode prog_20_method_44_code 9 = .ok (.iload_n 3, 1) := by decide +kernel
theorem d2_10 : decode prog_20_method_44_code 10 = .ok (.istore 4, 2) := by decide +kernel
theorem d2_12 : decode prog_20_method_44_code 12 = .ok (.iload_n 3, 1) := by decide +kernel
theorem d2_13 : decode prog_20_method_44_code 13 = .ok (.iload_n 2, 1) := by decide +kernel
theorem d2_14 : decode prog_20_method_44_code 14 = .ok (.iadd, 1) := by decide +kernel
theorem d2_15 : decode prog_20_method_44_code 15 = .ok (.iconst 1, 1) := by decide +kernel
theorem d2_16 : decode prog_20_method_44_code 16 = .ok (.isub, 1) := by decide +kernel
theorem d2_17 : decode prog_20_method_44_code 17 = .ok (.istore 5, 2) := by decide +kernel
theorem d2_55 : decode prog_20_method_44_code 55 = .ok (.iload_n 3, 1) := by decide +kernel
theorem d2_56 : decode prog_20_method_44_code 56 = .ok (.iload_n 2, 1) := by decide +kernel
theorem d2_57 : decode prog_20_method_44_code 57 = .ok (.iadd, 1) := by decide +kernel
theorem d2_58 : decode prog_20_method_44_code 58 = .ok (.istore_n 3, 1) := by decide +kernel
theorem d2_59 : decode prog_20_method_44_code 59 = .ok (.goto (-57), 3) := by decide +kernel
set_option maxRecDepth 65536 in
set_option maxHeartbeats 40000000 in
theorem own_lo {p : Program} {l : Launch} {e : Env} {R : Room} {s : State} {m : MethodId} {args : Array Value} {below : List Frame} {meth : Method} {c : Code} {Z : State} {a0 : Array Value} {n0 : Nat} {C S : Nat} (hw : ∀ d ∈ tables_1, d.before a0 Z = true) (hx : p.tables.exec = Jvm.exec) (hby : c.code = prog_20_method_44_code) (hml : c.maxLocals = 7) (hown : s.vm.findClass "com/example/studyferry/studyferry/dicom/DicomInput" = some m.cls) (hret : meth.sig.returnType = none) (hlk : meth.locks = false) (hZ : Z.Warmed39 s.vm) {h0 : Heap} (r0 : Addr) (p1 p2 : Int32) (g0 : n0 ≤ r0) (hp1 : p1.toInt ≤ 8) (hp2 : 1 ≤ p2.toInt) (hp3 : p2.toInt ≤ 8) :
    ∀ (k : Nat) (a : Int32) (o4 o5 o6 : Option Int32) (T0 : State) (h : Heap) (L : List Int32), own_S p l e R s m args below meth c n0 h0 [r0] T0 h 0 0 → own_B Z h r0 L → own_hB L → L.length = 8 → 0 ≤ a.toInt → a.toInt ≤ 8 → p1.toInt - a.toInt < (k : Int) → own_G p e below (own_D s (own_Q n0 h0 [r0] (fun v h => v = none ∧ own_B Z h r0 (own_out 0 p1 p2 k a L))) C S) T0 (mkF m 2 #[.val (.ref r0), .val (.int p1), .val (.int p2), .val (.int a), (own_sl o4), (own_sl o5), (own_sl o6)] []) := by
  intro k
  induction k with
  | zero =>
    intro a o4 o5 o6 T0 h L X0 B0 hB hlen ha0 ha8 hk
    have e1 : (a + p2).toInt = a.toInt + p2.toInt := Jvm.Kit.i32_add (by omega) (by omega)
    have hge : p1 < a + p2 := by rw [Int32.lt_iff_toInt_lt]; omega
    refine own_st (f' := (mkF m 3 #[.val (.ref r0), .val (.int p1), .val (.int p2), .val (.int a), (own_sl o4), (own_sl o5), (own_sl o6)] [(.int a)])) (fun t k => XS.iloadN X0.her hx rfl (hb hby d2_2) rfl k) ?_
    refine own_st (f' := (mkF m 4 #[.val (.ref r0), .val (.int p1), .val (.int p2), .val (.int a), (own_sl o4), (own_sl o5), (own_sl o6)] [(.int p2), (.int a)])) (fun t k => XS.iloadN X0.her hx rfl (hb hby d2_3) rfl k) ?_
    refine own_st (f' := (mkF m 5 #[.val (.ref r0), .val (.int p1), .val (.int p2), .val (.int a), (own_sl o4), (own_sl o5), (own_sl o6)] [(.int (a + p2))])) (fun t k => XS.iadd X0.her hx rfl (hb hby d2_4) rfl k) ?_
    refine own_st (f' := (mkF m 6 #[.val (.ref r0), .val (.int p1), .val (.int p2), .val (.int a), (own_sl o4), (own_sl o5), (own_sl o6)] [(.int p1), (.int (a + p2))])) (fun t k => XS.iloadN X0.her hx rfl (hb hby d2_5) rfl k) ?_
    refine own_st (f' := (mkF m 62 #[.val (.ref r0), .val (.int p1), .val (.int p2), .val (.int a), (own_sl o4), (own_sl o5), (own_sl o6)] [])) (fun t k => XS.icmpYes X0.her hx rfl (pc0 := 6) (pc' := 62) rfl (hb hby d2_6) rfl (tlt (hge : p1 < (a + p2))).2.2.1 (by decide) (by decide) k) ?_
    refine own_ret0 X0 hx hret hlk (hb hby d2_62) (by first | decide | omega) (by first | decide | omega) ?_
    exact ⟨rfl, B0⟩
  | succ k ih =>
    intro a o4 o5 o6 T0 h L X0 B0 hB hlen ha0 ha8 hk
    refine own_st (f' := (mkF m 3 #[.val (.ref r0), .val (.int p1), .val (.int p2), .val (.int a), (own_sl o4), (own_sl o5), (own_sl o6)] [(.int a)])) (fun t k => XS.iloadN X0.her hx rfl (hb hby d2_2) rfl k) ?_
    refine own_st (f' := (mkF m 4 #[.val (.ref r0), .val (.int p1), .val (.int p2), .val (.int a), (own_sl o4), (own_sl o5), (own_sl o6)] [(.int p2), (.int a)])) (fun t k => XS.iloadN X0.her hx rfl (hb hby d2_3) rfl k) ?_
    refine own_st (f' := (mkF m 5 #[.val (.ref r0), .val (.int p1), .val (.int p2), .val (.int a), (own_sl o4), (own_sl o5), (own_sl o6)] [(.int (a + p2))])) (fun t k => XS.iadd X0.her hx rfl (hb hby d2_4) rfl k) ?_
    refine own_st (f' := (mkF m 6 #[.val (.ref r0), .val (.int p1), .val (.int p2), .val (.int a), (own_sl o4), (own_sl o5), (own_sl o6)] [(.int p1), (.int (a + p2))])) (fun t k => XS.iloadN X0.her hx rfl (hb hby d2_5) rfl k) ?_
    by_cases hc3 : p1 < (a + p2)
    · refine own_st (f' := (mkF m 62 #[.val (.ref r0), .val (.int p1), .val (.int p2), .val (.int a), (own_sl o4), (own_sl o5), (own_sl o6)] [])) (fun t k => XS.icmpYes X0.her hx rfl (pc0 := 6) (pc' := 62) rfl (hb hby d2_6) rfl (tlt hc3).2.2.1 (by decide) (by decide) k) ?_
      refine own_ret0 X0 hx hret hlk (hb hby d2_62) (by first | decide | omega) (by first | decide | omega) ?_
      rw [show own_out 0 p1 p2 (k + 1) a L = L from if_pos hc3]
      exact ⟨rfl, B0⟩
    · refine own_st (f' := (mkF m 9 #[.val (.ref r0), .val (.int p1), .val (.int p2), .val (.int a), (own_sl o4), (own_sl o5), (own_sl o6)] [])) (fun t k => XS.icmpNo X0.her hx rfl (hb hby d2_6) rfl (flt hc3).2.2.1 k) ?_
      refine own_st (f' := (mkF m 10 #[.val (.ref r0), .val (.int p1), .val (.int p2), .val (.int a), (own_sl o4), (own_sl o5), (own_sl o6)] [(.int a)])) (fun t k => XS.iloadN X0.her hx rfl (hb hby d2_9) rfl k) ?_
      refine own_st (f' := (mkF m 12 #[.val (.ref r0), .val (.int p1), .val (.int p2), .val (.int a), .val (.int a), (own_sl o5), (own_sl o6)] [])) (fun t k => XS.istore X0.her hx rfl (hb hby d2_10) rfl (l' := #[.val (.ref r0), .val (.int p1), .val (.int p2), .val (.int a), .val (.int a), (own_sl o5), (own_sl o6)]) (by cases o4 <;> rfl) k) ?_
      refine own_st (f' := (mkF m 13 #[.val (.ref r0), .val (.int p1), .val (.int p2), .val (.int a), .val (.int a), (own_sl o5), (own_sl o6)] [(.int a)])) (fun t k => XS.iloadN X0.her hx rfl (hb hby d2_12) rfl k) ?_
      refine own_st (f' := (mkF m 14 #[.val (.ref r0), .val (.int p1), .val (.int p2), .val (.int a), .val (.int a), (own_sl o5), (own_sl o6)] [(.int p2), (.int a)])) (fun t k => XS.iloadN X0.her hx rfl (hb hby d2_13) rfl k) ?_
      refine own_st (f' := (mkF m 15 #[.val (.ref r0), .val (.int p1), .val (.int p2), .val (.int a), .val (.int a), (own_sl o5), (own_sl o6)] [(.int (a + p2))])) (fun t k => XS.iadd X0.her hx rfl (hb hby d2_14) rfl k) ?_
      refine own_st (f' := (mkF m 16 #[.val (.ref r0), .val (.int p1), .val (.int p2), .val (.int a), .val (.int a), (own_sl o5), (own_sl o6)] [(.int (1 : Int32)), (.int (a + p2))])) (fun t k => XS.iconst X0.her hx rfl (hb hby d2_15) k) ?_
      refine own_st (f' := (mkF m 17 #[.val (.ref r0), .val (.int p1), .val (.int p2), .val (.int a), .val (.int a), (own_sl o5), (own_sl o6)] [(.int ((a + p2) - (1 : Int32)))])) (fun t k => XS.isub X0.her hx rfl (hb hby d2_16) rfl k) ?_
      refine own_st (f' := (mkF m 19 #[.val (.ref r0), .val (.int p1), .val (.int p2), .val (.int a), .val (.int a), .val (.int ((a + p2) - (1 : Int32))), (own_sl o6)] [])) (fun t k => XS.istore X0.her hx rfl (hb hby d2_17) rfl (l' := #[.val (.ref r0), .val (.int p1), .val (.int p2), .val (.int a), .val (.int a), .val (.int ((a + p2) - (1 : Int32))), (own_sl o6)]) (by cases o5 <;> rfl) k) ?_
      have q : ¬ p1.toInt < (a + p2).toInt := fun z => hc3 (Int32.lt_iff_toInt_lt.mpr z)
      have e1 : (a + p2).toInt = a.toInt + p2.toInt := Jvm.Kit.i32_add (by omega) (by omega)
      have e2 : (a + p2 - 1).toInt = a.toInt + p2.toInt - 1 := by rw [Jvm.Kit.i32_sub (by rw [show (1 : Int32).toInt = 1 from rfl]; omega) (by rw [show (1 : Int32).toInt = 1 from rfl]; omega), e1]; rfl
      refine own_li (C := 0) (S := 0) hw hx hby hml hown hret hlk hZ r0 p1 p2 a g0 8 a (a + p2 - 1) o6 _ _ L X0 B0 hB hlen ha0 (by omega) (by omega) ?_
      intro x4 y4 o4 T4 h4 X4 B4
      refine own_st (f' := (mkF m 56 #[.val (.ref r0), .val (.int p1), .val (.int p2), .val (.int a), .val (.int x4), .val (.int y4), (own_sl o4)] [(.int a)])) (fun t k => XS.iloadN X4.her hx rfl (hb hby d2_55) rfl k) ?_
      refine own_st (f' := (mkF m 57 #[.val (.ref r0), .val (.int p1), .val (.int p2), .val (.int a), .val (.int x4), .val (.int y4), (own_sl o4)] [(.int p2), (.int a)])) (fun t k => XS.iloadN X4.her hx rfl (hb hby d2_56) rfl k) ?_
      refine own_st (f' := (mkF m 58 #[.val (.ref r0), .val (.int p1), .val (.int p2), .val (.int a), .val (.int x4), .val (.int y4), (own_sl o4)] [(.int (a + p2))])) (fun t k => XS.iadd X4.her hx rfl (hb hby d2_57) rfl k) ?_
      refine own_st (f' := (mkF m 59 #[.val (.ref r0), .val (.int p1), .val (.int p2), .val (.int (a + p2)), .val (.int x4), .val (.int y4), (own_sl o4)] [])) (fun t k => XS.istoreN X4.her hx rfl (hb hby d2_58) rfl (l' := #[.val (.ref r0), .val (.int p1), .val (.int p2), .val (.int (a + p2)), .val (.int x4), .val (.int y4), (own_sl o4)]) rfl k) ?_
      refine own_st (f' := (mkF m 2 #[.val (.ref r0), .val (.int p1), .val (.int p2), .val (.int (a + p2)), .val (.int x4), .val (.int y4), (own_sl o4)] [])) (fun t k => XS.goto X4.her hx rfl (pc0 := 59) (pc' := 2) rfl (hb hby d2_59) (by decide) (by decide) k) ?_
      rw [show own_out 0 p1 p2 (k + 1) a L = own_out 0 p1 p2 k (a + p2) (own_rev 0 8 a (a + p2 - 1) L) from if_neg hc3]
      exact ih _ (some x4) (some y4) o4 _ _ _ X4 B4 (own_rev_hB _ _ _ _ hB) (by rw [own_rev_len]; exact hlen) (by omega) (by omega) (by omega)
theorem d2_0 : decode prog_20_method_44_code 0 = .ok (.iconst 0, 1) := by decide +kernel
theorem d2_1 : decode prog_20_method_44_code 1 = .ok (.istore_n 3, 1) := by decide +kernel
theorem own_ef2 (m : MethodId) (r0 : Addr) (p1 : Int32) (p2 : Int32) : entryFrame m #[(.ref r0), (.int p1), (.int p2)] 7 = mkF m 0 #[.val (.ref r0), .val (.int p1), .val (.int p2), .unset, .unset, .unset, .unset] [] := by first | (simp [entryFrame, mkF, argsToLocals, Value.category]; done) | rfl
set_option maxRecDepth 65536 in
set_option maxHeartbeats 40000000 in
theorem own_c2 (l : Launch) (Z : State) (a0 : Array Value) (hw : ∀ d ∈ tables_1, d.before a0 Z = true) (h0 : Heap) (n0 : Nat) (Z0 : n0 ≤ h0.size) (r0 : Addr) (p1 : Int32) (p2 : Int32) (L : List Int32) (B0 : own_B Z h0 r0 L) (g0 : n0 ≤ r0) (hB : own_hB L) (hlen : L.length = 8) (hp1 : p1.toInt ≤ 8) (hp2 : 1 ≤ p2.toInt) (hp3 : p2.toInt ≤ 8) :
    own_M l (⟨"com/example/studyferry/studyferry/dicom/DicomInput", "swap", "([BII)V"⟩ : MethodName) prog_20_method_44_code 7 none [] ({ frames := 0, cells := 0, slots := 0, locals := 0 } : Room) Z #[(.ref r0), (.int p1), (.int p2)] h0 (own_Q n0 h0 [r0] (fun v h => v = none ∧ own_B Z h r0 (own_out 0 p1 p2 9 (0 : Int32) L))) := by
  refine own_body (plainFor_of_name own_pn1) ?_
  intro p e s m below meth c T0 X0 hx hby hml hown hnm hret hlk hZ
  refine own_cast (own_ef2 m r0 p1 p2) ?_
  refine own_st (f' := (mkF m 1 #[.val (.ref r0), .val (.int p1), .val (.int p2), .unset, .unset, .unset, .unset] [(.int (0 : Int32))])) (fun t k => XS.iconst X0.her hx rfl (hb hby d2_0) k) ?_
  refine own_st (f' := (mkF m 2 #[.val (.ref r0), .val (.int p1), .val (.int p2), .val (.int (0 : Int32)), .unset, .unset, .unset] [])) (fun t k => XS.istoreN X0.her hx rfl (hb hby d2_1) rfl (l' := #[.val (.ref r0), .val (.int p1), .val (.int p2), .val (.int (0 : Int32)), .unset, .unset, .unset]) rfl k) ?_
  exact own_lo hw hx hby hml hown hret hlk hZ r0 p1 p2 g0 hp1 hp2 hp3 9 (0 : Int32) none none none _ _ L X0 B0 hB hlen (by decide) (by decide) (by show _ - (0 : Int) < 9; omega)
theorem d3_0 : decode method_3_code 0 = .ok (.iload_n 2, 1) := by decide +kernel
theorem d3_1 : decode method_3_code 1 = .ok (.iload_n 3, 1) := by decide +kernel
theorem d3_2 : decode method_3_code 2 = .ok (.idiv, 1) := by decide +kernel
theorem d3_3 : decode method_3_code 3 = .ok (.iload_n 3, 1) := by decide +kernel
theorem d3_4 : decode method_3_code 4 = .ok (.imul, 1) := by decide +kernel
theorem d3_5 : decode method_3_code 5 = .ok (.istore 4, 2) := by decide +kernel
theorem d3_7 : decode method_3_code 7 = .ok (.iload_n 1, 1) := by decide +kernel
theorem d3_8 : decode method_3_code 8 = .ok (.iload 4, 2) := by decide +kernel
theorem d3_10 : decode method_3_code 10 = .ok (.if_icmp .lt 7, 3) := by decide +kernel
theorem d3_13 : decode method_3_code 13 = .ok (.aload_n 0, 1) := by decide +kernel
theorem d3_14 : decode method_3_code 14 = .ok (.iload_n 1, 1) := by decide +kernel
theorem d3_15 : decode method_3_code 15 = .ok (.baload, 1) := by decide +kernel
theorem d3_16 : decode method_3_code 16 = .ok (.ireturn, 1) := by decide +kernel
theorem d3_17 : decode method_3_code 17 = .ok (.iload_n 1, 1) := by decide +kernel
theorem d3_18 : decode method_3_code 18 = .ok (.iload_n 3, 1) := by decide +kernel
theorem d3_19 : decode method_3_code 19 = .ok (.idiv, 1) := by decide +kernel
theorem d3_20 : decode method_3_code 20 = .ok (.iload_n 3, 1) := by decide +kernel
theorem d3_21 : decode method_3_code 21 = .ok (.imul, 1) := by decide +kernel
theorem d3_22 : decode method_3_code 22 = .ok (.istore 5, 2) := by decide +kernel
theorem d3_24 : decode method_3_code 24 = .ok (.aload_n 0, 1) := by decide +kernel
theorem d3_25 : decode method_3_code 25 = .ok (.iload 5, 2) := by decide +kernel
theorem d3_27 : decode method_3_code 27 = .ok (.iload_n 3, 1) := by decide +kernel
theorem d3_28 : decode method_3_code 28 = .ok (.iadd, 1) := by decide +kernel
theorem d3_29 : decode method_3_code 29 = .ok (.iconst 1, 1) := by decide +kernel
theorem d3_30 : decode method_3_code 30 = .ok (.isub, 1) := by decide +kernel
theorem d3_31 : decode method_3_code 31 = .ok (.iload_n 1, 1) := by decide +kernel
theorem d3_32 : decode method_3_code 32 = .ok (.iload 5, 2) := by decide +kernel
theorem d3_34 : decode method_3_code 34 = .ok (.isub, 1) := by decide +kernel
theorem d3_35 : decode method_3_code 35 = .ok (.isub, 1) := by decide +kernel
theorem d3_36 : decode method_3_code 36 = .ok (.baload, 1) := by decide +kernel
theorem d3_37 : decode method_3_code 37 = .ok (.ireturn, 1) := by decide +kernel
/-- what the body returns -/
def own_F3 (p1 : Int32) (p2 : Int32) (p3 : Int32) (L : List Int32) : Int32 :=
  (if p1 < ((p2 / p3) * p3) then (L.getD (((((p1 / p3) * p3) + p3) - (1 : Int32)) - (p1 - ((p1 / p3) * p3))).toNatClampNeg 0) else (L.getD p1.toNatClampNeg 0))
theorem own_ef3 (m : MethodId) (r0 : Addr) (p1 : Int32) (p2 : Int32) (p3 : Int32) : entryFrame m #[(.ref r0), (.int p1), (.int p2), (.int p3)] 6 = mkF m 0 #[.val (.ref r0), .val (.int p1), .val (.int p2), .val (.int p3), .unset, .unset] [] := by first | (simp [entryFrame, mkF, argsToLocals, Value.category]; done) | rfl
set_option maxRecDepth 65536 in
set_option maxHeartbeats 40000000 in
theorem own_c3 (l : Launch) (Z : State) (a0 : Array Value) (hw : ∀ d ∈ tables_1, d.before a0 Z = true) (h0 : Heap) (n0 : Nat) (Z0 : n0 ≤ h0.size) (r0 : Addr) (p1 : Int32) (p2 : Int32) (p3 : Int32) (L : List Int32) (B0 : own_B Z h0 r0 L) (hB : own_hB L) (hs0 : p3 ≠ 0) (hj1 : ¬ p1 < 0) (hv1 : p1.toNatClampNeg < L.length) (hix : p1 < ((p2 / p3) * p3) → ¬ (((((p1 / p3) * p3) + p3) - (1 : Int32)) - (p1 - ((p1 / p3) * p3))) < 0 ∧ (((((p1 / p3) * p3) + p3) - (1 : Int32)) - (p1 - ((p1 / p3) * p3))).toNatClampNeg < L.length) :
    own_M l (⟨"com/example/studyferry/studyferry/dicom/DicomInputSwapPinLaw", "expected", "([BIII)B"⟩ : MethodName) method_3_code 6 (some .byte) [] ({ frames := 0, cells := 0, slots := 0, locals := 0 } : Room) Z #[(.ref r0), (.int p1), (.int p2), (.int p3)] h0 (own_Q n0 h0 [] (own_P (.int (own_F3 p1 p2 p3 L)) h0)) := by
  refine own_body (plainFor_of_name own_pn0) ?_
  intro p e s m below meth c T0 X0 hx hby hml hown hnm hret hlk hZ
  refine own_cast (own_ef3 m r0 p1 p2 p3) ?_
  refine own_st (f' := (mkF m 1 #[.val (.ref r0), .val (.int p1), .val (.int p2), .val (.int p3), .unset, .unset] [(.int p2)])) (fun t k => XS.iloadN X0.her hx rfl (hb hby d3_0) rfl k) ?_
  refine own_st (f' := (mkF m 2 #[.val (.ref r0), .val (.int p1), .val (.int p2), .val (.int p3), .unset, .unset] [(.int p3), (.int p2)])) (fun t k => XS.iloadN X0.her hx rfl (hb hby d3_1) rfl k) ?_
  refine own_st (f' := (mkF m 3 #[.val (.ref r0), .val (.int p1), .val (.int p2), .val (.int p3), .unset, .unset] [(.int (p2 / p3))])) (fun t k => XS.idiv X0.her hx rfl (hb hby d3_2) rfl hs0 k) ?_
  refine own_st (f' := (mkF m 4 #[.val (.ref r0), .val (.int p1), .val (.int p2), .val (.int p3), .unset, .unset] [(.int p3), (.int (p2 / p3))])) (fun t k => XS.iloadN X0.her hx rfl (hb hby d3_3) rfl k) ?_
  refine own_st (f' := (mkF m 5 #[.val (.ref r0), .val (.int p1), .val (.int p2), .val (.int p3), .unset, .unset] [(.int ((p2 / p3) * p3))])) (fun t k => XS.imul X0.her hx rfl (hb hby d3_4) rfl k) ?_
  refine own_st (f' := (mkF m 7 #[.val (.ref r0), .val (.int p1), .val (.int p2), .val (.int p3), .val (.int ((p2 / p3) * p3)), .unset] [])) (fun t k => XS.istore X0.her hx rfl (hb hby d3_5) rfl (l' := #[.val (.ref r0), .val (.int p1), .val (.int p2), .val (.int p3), .val (.int ((p2 / p3) * p3)), .unset]) rfl k) ?_
  refine own_st (f' := (mkF m 8 #[.val (.ref r0), .val (.int p1), .val (.int p2), .val (.int p3), .val (.int ((p2 / p3) * p3)), .unset] [(.int p1)])) (fun t k => XS.iloadN X0.her hx rfl (hb hby d3_7) rfl k) ?_
  refine own_st (f' := (mkF m 10 #[.val (.ref r0), .val (.int p1), .val (.int p2), .val (.int p3), .val (.int ((p2 / p3) * p3)), .unset] [(.int ((p2 / p3) * p3)), (.int p1)])) (fun t k => XS.iload X0.her hx rfl (hb hby d3_8) rfl k) ?_
  by_cases hc5 : p1 < ((p2 / p3) * p3)
  · refine own_st (f' := (mkF m 17 #[.val (.ref r0), .val (.int p1), .val (.int p2), .val (.int p3), .val (.int ((p2 / p3) * p3)), .unset] [])) (fun t k => XS.icmpYes X0.her hx rfl (pc0 := 10) (pc' := 17) rfl (hb hby d3_10) rfl (tlt hc5).1 (by decide) (by decide) k) ?_
    refine own_st (f' := (mkF m 18 #[.val (.ref r0), .val (.int p1), .val (.int p2), .val (.int p3), .val (.int ((p2 / p3) * p3)), .unset] [(.int p1)])) (fun t k => XS.iloadN X0.her hx rfl (hb hby d3_17) rfl k) ?_
    refine own_st (f' := (mkF m 19 #[.val (.ref r0), .val (.int p1), .val (.int p2), .val (.int p3), .val (.int ((p2 / p3) * p3)), .unset] [(.int p3), (.int p1)])) (fun t k => XS.iloadN X0.her hx rfl (hb hby d3_18) rfl k) ?_
    refine own_st (f' := (mkF m 20 #[.val (.ref r0), .val (.int p1), .val (.int p2), .val (.int p3), .val (.int ((p2 / p3) * p3)), .unset] [(.int (p1 / p3))])) (fun t k => XS.idiv X0.her hx rfl (hb hby d3_19) rfl hs0 k) ?_
    refine own_st (f' := (mkF m 21 #[.val (.ref r0), .val (.int p1), .val (.int p2), .val (.int p3), .val (.int ((p2 / p3) * p3)), .unset] [(.int p3), (.int (p1 / p3))])) (fun t k => XS.iloadN X0.her hx rfl (hb hby d3_20) rfl k) ?_
    refine own_st (f' := (mkF m 22 #[.val (.ref r0), .val (.int p1), .val (.int p2), .val (.int p3), .val (.int ((p2 / p3) * p3)), .unset] [(.int ((p1 / p3) * p3))])) (fun t k => XS.imul X0.her hx rfl (hb hby d3_21) rfl k) ?_
    refine own_st (f' := (mkF m 24 #[.val (.ref r0), .val (.int p1), .val (.int p2), .val (.int p3), .val (.int ((p2 / p3) * p3)), .val (.int ((p1 / p3) * p3))] [])) (fun t k => XS.istore X0.her hx rfl (hb hby d3_22) rfl (l' := #[.val (.ref r0), .val (.int p1), .val (.int p2), .val (.int p3), .val (.int ((p2 / p3) * p3)), .val (.int ((p1 / p3) * p3))]) rfl k) ?_
    refine own_st (f' := (mkF m 25 #[.val (.ref r0), .val (.int p1), .val (.int p2), .val (.int p3), .val (.int ((p2 / p3) * p3)), .val (.int ((p1 / p3) * p3))] [(.ref r0)])) (fun t k => XS.aloadN X0.her hx rfl (hb hby d3_24) rfl rfl k) ?_
    refine own_st (f' := (mkF m 27 #[.val (.ref r0), .val (.int p1), .val (.int p2), .val (.int p3), .val (.int ((p2 / p3) * p3)), .val (.int ((p1 / p3) * p3))] [(.int ((p1 / p3) * p3)), (.ref r0)])) (fun t k => XS.iload X0.her hx rfl (hb hby d3_25) rfl k) ?_
    refine own_st (f' := (mkF m 28 #[.val (.ref r0), .val (.int p1), .val (.int p2), .val (.int p3), .val (.int ((p2 / p3) * p3)), .val (.int ((p1 / p3) * p3))] [(.int p3), (.int ((p1 / p3) * p3)), (.ref r0)])) (fun t k => XS.iloadN X0.her hx rfl (hb hby d3_27) rfl k) ?_
    refine own_st (f' := (mkF m 29 #[.val (.ref r0), .val (.int p1), .val (.int p2), .val (.int p3), .val (.int ((p2 / p3) * p3)), .val (.int ((p1 / p3) * p3))] [(.int (((p1 / p3) * p3) + p3)), (.ref r0)])) (fun t k => XS.iadd X0.her hx rfl (hb hby d3_28) rfl k) ?_
    refine own_st (f' := (mkF m 30 #[.val (.ref r0), .val (.int p1), .val (.int p2), .val (.int p3), .val (.int ((p2 / p3) * p3)), .val (.int ((p1 / p3) * p3))] [(.int (1 : Int32)), (.int (((p1 / p3) * p3) + p3)), (.ref r0)])) (fun t k => XS.iconst X0.her hx rfl (hb hby d3_29) k) ?_
    refine own_st (f' := (mkF m 31 #[.val (.ref r0), .val (.int p1), .val (.int p2), .val (.int p3), .val (.int ((p2 / p3) * p3)), .val (.int ((p1 / p3) * p3))] [(.int ((((p1 / p3) * p3) + p3) - (1 : Int32))), (.ref r0)])) (fun t k => XS.isub X0.her hx rfl (hb hby d3_30) rfl k) ?_
    refine own_st (f' := (mkF m 32 #[.val (.ref r0), .val (.int p1), .val (.int p2), .val (.int p3), .val (.int ((p2 / p3) * p3)), .val (.int ((p1 / p3) * p3))] [(.int p1), (.int ((((p1 / p3) * p3) + p3) - (1 : Int32))), (.ref r0)])) (fun t k => XS.iloadN X0.her hx rfl (hb hby d3_31) rfl k) ?_
    refine own_st (f' := (mkF m 34 #[.val (.ref r0), .val (.int p1), .val (.int p2), .val (.int p3), .val (.int ((p2 / p3) * p3)), .val (.int ((p1 / p3) * p3))] [(.int ((p1 / p3) * p3)), (.int p1), (.int ((((p1 / p3) * p3) + p3) - (1 : Int32))), (.ref r0)])) (fun t k => XS.iload X0.her hx rfl (hb hby d3_32) rfl k) ?_
    refine own_st (f' := (mkF m 35 #[.val (.ref r0), .val (.int p1), .val (.int p2), .val (.int p3), .val (.int ((p2 / p3) * p3)), .val (.int ((p1 / p3) * p3))] [(.int (p1 - ((p1 / p3) * p3))), (.int ((((p1 / p3) * p3) + p3) - (1 : Int32))), (.ref r0)])) (fun t k => XS.isub X0.her hx rfl (hb hby d3_34) rfl k) ?_
    refine own_st (f' := (mkF m 36 #[.val (.ref r0), .val (.int p1), .val (.int p2), .val (.int p3), .val (.int ((p2 / p3) * p3)), .val (.int ((p1 / p3) * p3))] [(.int (((((p1 / p3) * p3) + p3) - (1 : Int32)) - (p1 - ((p1 / p3) * p3)))), (.ref r0)])) (fun t k => XS.isub X0.her hx rfl (hb hby d3_35) rfl k) ?_
    refine own_bload (v := (L.getD (((((p1 / p3) * p3) + p3) - (1 : Int32)) - (p1 - ((p1 / p3) * p3))).toNatClampNeg 0)) X0 hx hZ B0 (hix hc5).1 (own_gd _ _ (hix hc5).2) (hb hby d3_36) ?_
    refine own_retN (t := .byte) X0 hx hret hlk (by simp) (hb hby d3_37) (by first | decide | omega) (by first | decide | omega) ?_
    exact ⟨congrArg (fun q => some (Value.int q)) (by unfold own_F3; rw [if_pos hc5]; first | done | exact hB _), rfl⟩
  · refine own_st (f' := (mkF m 13 #[.val (.ref r0), .val (.int p1), .val (.int p2), .val (.int p3), .val (.int ((p2 / p3) * p3)), .unset] [])) (fun t k => XS.icmpNo X0.her hx rfl (hb hby d3_10) rfl (flt hc5).1 k) ?_
    refine own_st (f' := (mkF m 14 #[.val (.ref r0), .val (.int p1), .val (.int p2), .val (.int p3), .val (.int ((p2 / p3) * p3)), .unset] [(.ref r0)])) (fun t k => XS.aloadN X0.her hx rfl (hb hby d3_13) rfl rfl k) ?_
    refine own_st (f' := (mkF m 15 #[.val (.ref r0), .val (.int p1), .val (.int p2), .val (.int p3), .val (.int ((p2 / p3) * p3)), .unset] [(.int p1), (.ref r0)])) (fun t k => XS.iloadN X0.her hx rfl (hb hby d3_14) rfl k) ?_
    refine own_bload (v := (L.getD p1.toNatClampNeg 0)) X0 hx hZ B0 hj1 (own_gd _ _ hv1) (hb hby d3_15) ?_
    refine own_retN (t := .byte) X0 hx hret hlk (by simp) (hb hby d3_16) (by first | decide | omega) (by first | decide | omega) ?_
    exact ⟨congrArg (fun q => some (Value.int q)) (by unfold own_F3; rw [if_neg hc5]; first | done | exact hB _), rfl⟩
def own_t0_7 (q0 : Int64) (p1 : Int32) (p2 : Int32) : Int32 := ((p1 &&& (2147483647 : Int32)) % (9 : Int32))
def own_t0_18 (q0 : Int64) (p1 : Int32) (p2 : Int32) : Int32 := (((p2 &&& (2147483647 : Int32)) % (8 : Int32)) + (1 : Int32))
def own_E (q0 : Int64) : List Int32 := [(own_F1 q0 (0 : Int32)), (own_F1 q0 (1 : Int32)), (own_F1 q0 (2 : Int32)), (own_F1 q0 (3 : Int32)), (own_F1 q0 (4 : Int32)), (own_F1 q0 (5 : Int32)), (own_F1 q0 (6 : Int32)), (own_F1 q0 (7 : Int32))]
theorem own_EB (q0 : Int64) : own_hB (own_E q0) := by
  intro i
  rcases i with _ | _ | _ | _ | _ | _ | _ | _ | i
  · exact own_b2 _
  · exact own_b2 _
  · exact own_b2 _
  · exact own_b2 _
  · exact own_b2 _
  · exact own_b2 _
  · exact own_b2 _
  · exact own_b2 _
  · rfl
theorem own_rn (q0 : Int64) (p1 p2 : Int32) : 0 ≤ (own_t0_7 q0 p1 p2).toInt ∧ (own_t0_7 q0 p1 p2).toInt ≤ 8 := by
  have m1 : (p1 &&& 2147483647).toInt = p1.toInt % 2 ^ 31 := Jvm.Kit.i32_mask p1 2147483647 (k := 31) (by decide) (by decide)
  have r : (own_t0_7 q0 p1 p2).toInt = (p1 &&& 2147483647).toInt % 9 := by
    show ((p1 &&& 2147483647) % 9).toInt = _
    rw [Jvm.Kit.i32_rem_nonneg (by omega)]; rfl
  omega
theorem own_rs (q0 : Int64) (p1 p2 : Int32) : 1 ≤ (own_t0_18 q0 p1 p2).toInt ∧ (own_t0_18 q0 p1 p2).toInt ≤ 8 := by
  have m1 : (p2 &&& 2147483647).toInt = p2.toInt % 2 ^ 31 := Jvm.Kit.i32_mask p2 2147483647 (k := 31) (by decide) (by decide)
  have r : ((p2 &&& 2147483647) % 8).toInt = (p2 &&& 2147483647).toInt % 8 := by rw [Jvm.Kit.i32_rem_nonneg (by omega)]; rfl
  have o1 : (1 : Int32).toInt = 1 := rfl
  have r2 : (own_t0_18 q0 p1 p2).toInt = (p2 &&& 2147483647).toInt % 8 + 1 := by
    show ((p2 &&& 2147483647) % 8 + 1).toInt = _
    rw [Jvm.Kit.i32_add (by omega) (by omega), r, o1]
  omega
theorem own_s0 (q0 : Int64) (p1 p2 : Int32) : own_t0_18 q0 p1 p2 ≠ 0 := by
  intro h
  have := own_rs q0 p1 p2
  rw [h, show (0 : Int32).toInt = 0 from rfl] at this
  omega
theorem own_fin9 (x : Int32) (h : 0 ≤ x.toInt ∧ x.toInt ≤ 8) : ∃ f : Fin 9, x = Int32.ofNat f.val := by
  refine ⟨⟨x.toInt.toNat, by omega⟩, ?_⟩
  apply Int32.toInt_inj.mp
  rw [Int32.toInt_ofNat_of_lt (by show x.toInt.toNat < _; omega)]
  show x.toInt = (x.toInt.toNat : Int)
  omega
theorem own_fin8 (x : Int32) (h : 1 ≤ x.toInt ∧ x.toInt ≤ 8) : ∃ f : Fin 8, x = Int32.ofNat (f.val + 1) := by
  refine ⟨⟨x.toInt.toNat - 1, by omega⟩, ?_⟩
  apply Int32.toInt_inj.mp
  rw [Int32.toInt_ofNat_of_lt (by show x.toInt.toNat - 1 + 1 < _; omega)]
  show x.toInt = ((x.toInt.toNat - 1 + 1 : Nat) : Int)
  omega
theorem own_rev_map {α β : Type} (f : α → β) (d : α) (k : Nat) (x y : Int32) (L : List α) : own_rev (f d) k x y (L.map f) = (own_rev d k x y L).map f := by
  induction k generalizing x y L with
  | zero => rfl
  | succ k ih =>
    simp only [own_rev]
    by_cases h : x < y
    · rw [if_pos h, if_pos h, ← ih]
      congr 1
      rw [List.map_set, List.map_set]
      simp [List.getD_eq_getElem?_getD, Option.getD_map]
    · rw [if_neg h, if_neg h]
theorem own_out_map {α β : Type} (f : α → β) (d : α) (n s : Int32) (k : Nat) (a : Int32) (L : List α) : own_out (f d) n s k a (L.map f) = (own_out d n s k a L).map f := by
  induction k generalizing a L with
  | zero => rfl
  | succ k ih =>
    simp only [own_out]
    by_cases h : n < a + s
    · rw [if_pos h, if_pos h]
    · rw [if_neg h, if_neg h, ← ih, own_rev_map]
theorem own_gm (f : Nat → Int32) (l : List Nat) (i : Nat) (h : i < l.length) : (l.map f).getD i 0 = f (l.getD i 8) := by
  simp [List.getD_eq_getElem?_getD, List.getElem?_map, List.getElem?_eq_getElem h]
/-- where the byte at i comes from -/
def own_idx (i n s : Int32) : Nat := if i < (n / s) * s then (((((i / s) * s) + s) - 1) - (i - ((i / s) * s))).toNatClampNeg else i.toNatClampNeg
theorem own_F3_idx (i n s : Int32) (L : List Int32) : own_F3 i n s L = L.getD (own_idx i n s) 0 := by
  unfold own_F3 own_idx
  split <;> rfl
theorem own_dec1 : ∀ (n : Fin 9) (s : Fin 8) (i : Fin 8), (own_out (8 : Nat) (Int32.ofNat n.val) (Int32.ofNat (s.val + 1)) 9 (0 : Int32) [0, 1, 2, 3, 4, 5, 6, 7]).getD i.val 8 = own_idx (Int32.ofNat i.val) (Int32.ofNat n.val) (Int32.ofNat (s.val + 1)) := by decide +kernel
theorem own_dec2 : ∀ (n : Fin 9) (s : Fin 8) (i : Fin 8), Int32.ofNat i.val < ((Int32.ofNat n.val / Int32.ofNat (s.val + 1)) * Int32.ofNat (s.val + 1)) → ¬ (((((Int32.ofNat i.val / Int32.ofNat (s.val + 1)) * Int32.ofNat (s.val + 1)) + Int32.ofNat (s.val + 1)) - (1 : Int32)) - (Int32.ofNat i.val - ((Int32.ofNat i.val / Int32.ofNat (s.val + 1)) * Int32.ofNat (s.val + 1)))) < 0 ∧ (((((Int32.ofNat i.val / Int32.ofNat (s.val + 1)) * Int32.ofNat (s.val + 1)) + Int32.ofNat (s.val + 1)) - (1 : Int32)) - (Int32.ofNat i.val - ((Int32.ofNat i.val / Int32.ofNat (s.val + 1)) * Int32.ofNat (s.val + 1)))).toNatClampNeg < 8 := by decide +kernel
theorem own_hix (q0 : Int64) (p1 p2 : Int32) (i : Fin 8) : Int32.ofNat i.val < ((own_t0_7 q0 p1 p2 / own_t0_18 q0 p1 p2) * own_t0_18 q0 p1 p2) → ¬ (((((Int32.ofNat i.val / own_t0_18 q0 p1 p2) * own_t0_18 q0 p1 p2) + own_t0_18 q0 p1 p2) - (1 : Int32)) - (Int32.ofNat i.val - ((Int32.ofNat i.val / own_t0_18 q0 p1 p2) * own_t0_18 q0 p1 p2))) < 0 ∧ (((((Int32.ofNat i.val / own_t0_18 q0 p1 p2) * own_t0_18 q0 p1 p2) + own_t0_18 q0 p1 p2) - (1 : Int32)) - (Int32.ofNat i.val - ((Int32.ofNat i.val / own_t0_18 q0 p1 p2) * own_t0_18 q0 p1 p2))).toNatClampNeg < 8 := by
  obtain ⟨n, hn⟩ := own_fin9 _ (own_rn q0 p1 p2)
  obtain ⟨s, hs⟩ := own_fin8 _ (own_rs q0 p1 p2)
  rw [hn, hs]
  exact own_dec2 n s i
theorem own_fin (q0 : Int64) (p1 p2 : Int32) (i : Fin 8) : (own_out 0 (own_t0_7 q0 p1 p2) (own_t0_18 q0 p1 p2) 9 (0 : Int32) (own_E q0)).getD i.val 0 = own_F3 (Int32.ofNat i.val) (own_t0_7 q0 p1 p2) (own_t0_18 q0 p1 p2) (own_E q0) := by
  obtain ⟨n, hn⟩ := own_fin9 _ (own_rn q0 p1 p2)
  obtain ⟨s, hs⟩ := own_fin8 _ (own_rs q0 p1 p2)
  rw [hn, hs, own_F3_idx, ← own_dec1]
  have e : own_E q0 = ([0, 1, 2, 3, 4, 5, 6, 7] : List Nat).map fun j => (own_E q0).getD j 0 := rfl
  have m := own_out_map (fun j => (own_E q0).getD j 0) (8 : Nat) (Int32.ofNat n.val) (Int32.ofNat (s.val + 1)) 9 (0 : Int32) [0, 1, 2, 3, 4, 5, 6, 7]
  rw [← e] at m
  have z : (own_E q0).getD 8 0 = 0 := rfl
  simp only [z] at m
  have hl : i.val < (own_out (8 : Nat) (Int32.ofNat n.val) (Int32.ofNat (s.val + 1)) 9 (0 : Int32) [0, 1, 2, 3, 4, 5, 6, 7]).length := by rw [own_out_len]; exact i.isLt
  rw [m]
  exact own_gm (fun j => (own_E q0).getD j 0) _ i.val hl
theorem own_ef0 (m : MethodId) (q0 : Int64) (p1 : Int32) (p2 : Int32) : entryFrame m #[(.long q0), (.int p1), (.int p2)] maxLocals = mkF m 0 #[.val (.long q0), .second, .val (.int p1), .val (.int p2), .unset, .unset, .unset, .unset] [] := by first | (simp [entryFrame, mkF, argsToLocals, Value.category, maxLocals]; done) | rfl
set_option maxRecDepth 65536 in
set_option maxHeartbeats 40000000 in
theorem own_c0 (l : Launch) (Z : State) (a0 : Array Value) (hw : ∀ d ∈ tables_1, d.before a0 Z = true) (h0 : Heap) (n0 : Nat) (Z0 : n0 ≤ h0.size) (q0 : Int64) (p1 : Int32) (p2 : Int32) :
    own_M l x code maxLocals ret tables_1 room_1 Z #[(.long q0), (.int p1), (.int p2)] h0 (own_Q n0 h0 [] (fun v _ => v = some (.int 1))) := by
  refine own_body (plainFor_of_name own_pn0) ?_
  intro p e s m below meth c T0 X0 hx hby hml hown hnm hret hlk hZ
  refine own_cast (own_ef0 m q0 p1 p2) ?_
  refine own_st (f' := (mkF m 1 #[.val (.long q0), .second, .val (.int p1), .val (.int p2), .unset, .unset, .unset, .unset] [(.int p1)])) (fun t k => XS.iloadN X0.her hx rfl (hb hby at_0) rfl k) ?_
  refine own_ldcI X0 hx hZ hown (own_w0 hw) (hb hby at_1) ?_
  refine own_st (f' := (mkF m 4 #[.val (.long q0), .second, .val (.int p1), .val (.int p2), .unset, .unset, .unset, .unset] [(.int (p1 &&& (2147483647 : Int32)))])) (fun t k => XS.iand X0.her hx rfl (hb hby at_3) rfl k) ?_
  refine own_st (f' := (mkF m 6 #[.val (.long q0), .second, .val (.int p1), .val (.int p2), .unset, .unset, .unset, .unset] [(.int (9 : Int32)), (.int (p1 &&& (2147483647 : Int32)))])) (fun t k => XS.bipush X0.her hx rfl (hb hby at_4) k) ?_
  refine own_irem X0 hx (hb hby at_6) (by decide) ?_
  refine own_st (f' := (mkF m 9 #[.val (.long q0), .second, .val (.int p1), .val (.int p2), .val (.int (own_t0_7 q0 p1 p2)), .unset, .unset, .unset] [])) (fun t k => XS.istore X0.her hx rfl (hb hby at_7) rfl (l' := #[.val (.long q0), .second, .val (.int p1), .val (.int p2), .val (.int (own_t0_7 q0 p1 p2)), .unset, .unset, .unset]) rfl k) ?_
  refine own_st (f' := (mkF m 10 #[.val (.long q0), .second, .val (.int p1), .val (.int p2), .val (.int (own_t0_7 q0 p1 p2)), .unset, .unset, .unset] [(.int p2)])) (fun t k => XS.iloadN X0.her hx rfl (hb hby at_9) rfl k) ?_
  refine own_ldcI X0 hx hZ hown (own_w0 hw) (hb hby at_10) ?_
  refine own_st (f' := (mkF m 13 #[.val (.long q0), .second, .val (.int p1), .val (.int p2), .val (.int (own_t0_7 q0 p1 p2)), .unset, .unset, .unset] [(.int (p2 &&& (2147483647 : Int32)))])) (fun t k => XS.iand X0.her hx rfl (hb hby at_12) rfl k) ?_
  refine own_st (f' := (mkF m 15 #[.val (.long q0), .second, .val (.int p1), .val (.int p2), .val (.int (own_t0_7 q0 p1 p2)), .unset, .unset, .unset] [(.int (8 : Int32)), (.int (p2 &&& (2147483647 : Int32)))])) (fun t k => XS.bipush X0.her hx rfl (hb hby at_13) k) ?_
  refine own_irem X0 hx (hb hby at_15) (by decide) ?_
  refine own_st (f' := (mkF m 17 #[.val (.long q0), .second, .val (.int p1), .val (.int p2), .val (.int (own_t0_7 q0 p1 p2)), .unset, .unset, .unset] [(.int (1 : Int32)), (.int ((p2 &&& (2147483647 : Int32)) % (8 : Int32)))])) (fun t k => XS.iconst X0.her hx rfl (hb hby at_16) k) ?_
  refine own_st (f' := (mkF m 18 #[.val (.long q0), .second, .val (.int p1), .val (.int p2), .val (.int (own_t0_7 q0 p1 p2)), .unset, .unset, .unset] [(.int (((p2 &&& (2147483647 : Int32)) % (8 : Int32)) + (1 : Int32)))])) (fun t k => XS.iadd X0.her hx rfl (hb hby at_17) rfl k) ?_
  refine own_st (f' := (mkF m 20 #[.val (.long q0), .second, .val (.int p1), .val (.int p2), .val (.int (own_t0_7 q0 p1 p2)), .val (.int (own_t0_18 q0 p1 p2)), .unset, .unset] [])) (fun t k => XS.istore X0.her hx rfl (hb hby at_18) rfl (l' := #[.val (.long q0), .second, .val (.int p1), .val (.int p2), .val (.int (own_t0_7 q0 p1 p2)), .val (.int (own_t0_18 q0 p1 p2)), .unset, .unset]) rfl k) ?_
  refine own_st (f' := (mkF m 22 #[.val (.long q0), .second, .val (.int p1), .val (.int p2), .val (.int (own_t0_7 q0 p1 p2)), .val (.int (own_t0_18 q0 p1 p2)), .unset, .unset] [(.int (8 : Int32))])) (fun t k => XS.bipush X0.her hx rfl (hb hby at_20) k) ?_
  refine own_newB (kk := 8) X0 hx hZ (own_w1 hw) (by decide) rfl (by decide) (by decide) (by decide) (hb hby at_22) ?_
  intro T6 h6 b6 g6 q6 X6 E6 B6
  replace B6 : own_B Z h6 b6 [(0 : Int32), (0 : Int32), (0 : Int32), (0 : Int32), (0 : Int32), (0 : Int32), (0 : Int32), (0 : Int32)] := B6
  have ga_b6 : n0 ≤ b6 := Nat.le_trans Z0 q6
  have Zn6 : n0 ≤ h6.size := Nat.le_trans Z0 E6.1
  refine own_st (f' := (mkF m 26 #[.val (.long q0), .second, .val (.int p1), .val (.int p2), .val (.int (own_t0_7 q0 p1 p2)), .val (.int (own_t0_18 q0 p1 p2)), .val (.ref b6), .unset] [])) (fun t k => XS.astore X6.her hx rfl (hb hby at_24) rfl rfl (l' := #[.val (.long q0), .second, .val (.int p1), .val (.int p2), .val (.int (own_t0_7 q0 p1 p2)), .val (.int (own_t0_18 q0 p1 p2)), .val (.ref b6), .unset]) rfl k) ?_
  refine own_st (f' := (mkF m 28 #[.val (.long q0), .second, .val (.int p1), .val (.int p2), .val (.int (own_t0_7 q0 p1 p2)), .val (.int (own_t0_18 q0 p1 p2)), .val (.ref b6), .unset] [(.int (8 : Int32))])) (fun t k => XS.bipush X6.her hx rfl (hb hby at_26) k) ?_
  refine own_newB (kk := 8) X6 hx hZ (own_w1 hw) (by decide) rfl (by decide) (by decide) (by decide) (hb hby at_28) ?_
  intro T7 h7 b7 g7 q7 X7 E7 B7
  replace B7 : own_B Z h7 b7 [(0 : Int32), (0 : Int32), (0 : Int32), (0 : Int32), (0 : Int32), (0 : Int32), (0 : Int32), (0 : Int32)] := B7
  have ne_b6_b7 : b6 ≠ b7 := Nat.ne_of_lt (Nat.lt_of_lt_of_le B6.lt (Nat.le_of_eq g7.symm))
  have B7_b6 := B6.ext E7
  have ga_b7 : n0 ≤ b7 := Nat.le_trans Z0 q7
  have Zn7 : n0 ≤ h7.size := Nat.le_trans Zn6 E7.1
  refine own_st (f' := (mkF m 32 #[.val (.long q0), .second, .val (.int p1), .val (.int p2), .val (.int (own_t0_7 q0 p1 p2)), .val (.int (own_t0_18 q0 p1 p2)), .val (.ref b6), .val (.ref b7)] [])) (fun t k => XS.astore X7.her hx rfl (hb hby at_30) rfl rfl (l' := #[.val (.long q0), .second, .val (.int p1), .val (.int p2), .val (.int (own_t0_7 q0 p1 p2)), .val (.int (own_t0_18 q0 p1 p2)), .val (.ref b6), .val (.ref b7)]) rfl k) ?_
  refine own_st (f' := (mkF m 34 #[.val (.long q0), .second, .val (.int p1), .val (.int p2), .val (.int (own_t0_7 q0 p1 p2)), .val (.int (own_t0_18 q0 p1 p2)), .val (.ref b6), .val (.ref b7)] [(.ref b6)])) (fun t k => XS.aload X7.her hx rfl (hb hby at_32) rfl rfl k) ?_
  refine own_st (f' := (mkF m 35 #[.val (.long q0), .second, .val (.int p1), .val (.int p2), .val (.int (own_t0_7 q0 p1 p2)), .val (.int (own_t0_18 q0 p1 p2)), .val (.ref b6), .val (.ref b7)] [(.int (0 : Int32)), (.ref b6)])) (fun t k => XS.iconst X7.her hx rfl (hb hby at_34) k) ?_
  refine own_st (f' := (mkF m 36 #[.val (.long q0), .second, .val (.int p1), .val (.int p2), .val (.int (own_t0_7 q0 p1 p2)), .val (.int (own_t0_18 q0 p1 p2)), .val (.ref b6), .val (.ref b7)] [(.long q0), (.int (0 : Int32)), (.ref b6)])) (fun t k => XS.lloadN X7.her hx rfl (hb hby at_35) rfl k) ?_
  refine own_st (f' := (mkF m 37 #[.val (.long q0), .second, .val (.int p1), .val (.int p2), .val (.int (own_t0_7 q0 p1 p2)), .val (.int (own_t0_18 q0 p1 p2)), .val (.ref b6), .val (.ref b7)] [(.int (0 : Int32)), (.long q0), (.int (0 : Int32)), (.ref b6)])) (fun t k => XS.iconst X7.her hx rfl (hb hby at_36) k) ?_
  refine own_callSP (y := (⟨"com/example/studyferry/studyferry/dicom/DicomInputSwapPinLaw", "at", "(JI)B"⟩ : MethodName)) (W := 2) [(.long q0), (.int (0 : Int32))] X7 hx hZ hown (own_w2 hw) (own_w3 hw) (own_w4 hw) (own_w5 hw) (by decide) (own_c1 l Z a0 hw h7 n0 Zn7 q0 (0 : Int32)) (by decide) (by decide) (by decide) (by decide) (by rw [hml]; rfl) own_pd0 rfl rfl (Nat.le_of_eq rfl) (hb hby at_37) ?_
  intro T8 X8
  show own_G p e below _ T8 (mkF m 40 #[.val (.long q0), .second, .val (.int p1), .val (.int p2), .val (.int (own_t0_7 q0 p1 p2)), .val (.int (own_t0_18 q0 p1 p2)), .val (.ref b6), .val (.ref b7)] [(.int (own_F1 q0 (0 : Int32))), (.int (0 : Int32)), (.ref b6)])
  refine own_bstore X8 hx hZ B7_b6 (by decide) (by show 0 < 8; decide) (hb hby at_40) ga_b6 (Or.inr q6) ?_
  intro T9 h9 X9 K9 W9 B9
  rw [show ((own_F1 q0 (0 : Int32))).toInt8.toInt32 = (own_F1 q0 (0 : Int32)) from own_b2 _] at B9
  replace B9 : own_B Z h9 b6 [(own_F1 q0 (0 : Int32)), (0 : Int32), (0 : Int32), (0 : Int32), (0 : Int32), (0 : Int32), (0 : Int32), (0 : Int32)] := B9
  have B9_b7 := B7.keep K9 (ninS (Ne.symm ne_b6_b7) nin0)
  have Zn9 : n0 ≤ h9.size := Nat.le_trans Zn7 K9.1
  refine own_st (f' := (mkF m 43 #[.val (.long q0), .second, .val (.int p1), .val (.int p2), .val (.int (own_t0_7 q0 p1 p2)), .val (.int (own_t0_18 q0 p1 p2)), .val (.ref b6), .val (.ref b7)] [(.ref b6)])) (fun t k => XS.aload X9.her hx rfl (hb hby at_41) rfl rfl k) ?_
  refine own_st (f' := (mkF m 44 #[.val (.long q0), .second, .val (.int p1), .val (.int p2), .val (.int (own_t0_7 q0 p1 p2)), .val (.int (own_t0_18 q0 p1 p2)), .val (.ref b6), .val (.ref b7)] [(.int (1 : Int32)), (.ref b6)])) (fun t k => XS.iconst X9.her hx rfl (hb hby at_43) k) ?_
  refine own_st (f' := (mkF m 45 #[.val (.long q0), .second, .val (.int p1), .val (.int p2), .val (.int (own_t0_7 q0 p1 p2)), .val (.int (own_t0_18 q0 p1 p2)), .val (.ref b6), .val (.ref b7)] [(.long q0), (.int (1 : Int32)), (.ref b6)])) (fun t k => XS.lloadN X9.her hx rfl (hb hby at_44) rfl k) ?_
  refine own_st (f' := (mkF m 46 #[.val (.long q0), .second, .val (.int p1), .val (.int p2), .val (.int (own_t0_7 q0 p1 p2)), .val (.int (own_t0_18 q0 p1 p2)), .val (.ref b6), .val (.ref b7)] [(.int (1 : Int32)), (.long q0), (.int (1 : Int32)), (.ref b6)])) (fun t k => XS.iconst X9.her hx rfl (hb hby at_45) k) ?_
  refine own_callSP (y := (⟨"com/example/studyferry/studyferry/dicom/DicomInputSwapPinLaw", "at", "(JI)B"⟩ : MethodName)) (W := 2) [(.long q0), (.int (1 : Int32))] X9 hx hZ hown (own_w2 hw) (own_w3 hw) (own_w4 hw) (own_w5 hw) (by decide) (own_c1 l Z a0 hw h9 n0 Zn9 q0 (1 : Int32)) (by decide) (by decide) (by decide) (by decide) (by rw [hml]; rfl) own_pd0 rfl rfl (Nat.le_of_eq rfl) (hb hby at_46) ?_
  intro T10 X10
  show own_G p e below _ T10 (mkF m 49 #[.val (.long q0), .second, .val (.int p1), .val (.int p2), .val (.int (own_t0_7 q0 p1 p2)), .val (.int (own_t0_18 q0 p1 p2)), .val (.ref b6), .val (.ref b7)] [(.int (own_F1 q0 (1 : Int32))), (.int (1 : Int32)), (.ref b6)])
  refine own_bstore X10 hx hZ B9 (by decide) (by show 1 < 8; decide) (hb hby at_49) ga_b6 (Or.inr q6) ?_
  intro T11 h11 X11 K11 W11 B11
  rw [show ((own_F1 q0 (1 : Int32))).toInt8.toInt32 = (own_F1 q0 (1 : Int32)) from own_b2 _] at B11
  replace B11 : own_B Z h11 b6 [(own_F1 q0 (0 : Int32)), (own_F1 q0 (1 : Int32)), (0 : Int32), (0 : Int32), (0 : Int32), (0 : Int32), (0 : Int32), (0 : Int32)] := B11
  have B11_b7 := B9_b7.keep K11 (ninS (Ne.symm ne_b6_b7) nin0)
  have Zn11 : n0 ≤ h11.size := Nat.le_trans Zn9 K11.1
  refine own_st (f' := (mkF m 52 #[.val (.long q0), .second, .val (.int p1), .val (.int p2), .val (.int (own_t0_7 q0 p1 p2)), .val (.int (own_t0_18 q0 p1 p2)), .val (.ref b6), .val (.ref b7)] [(.ref b6)])) (fun t k => XS.aload X11.her hx rfl (hb hby at_50) rfl rfl k) ?_
  refine own_st (f' := (mkF m 53 #[.val (.long q0), .second, .val (.int p1), .val (.int p2), .val (.int (own_t0_7 q0 p1 p2)), .val (.int (own_t0_18 q0 p1 p2)), .val (.ref b6), .val (.ref b7)] [(.int (2 : Int32)), (.ref b6)])) (fun t k => XS.iconst X11.her hx rfl (hb hby at_52) k) ?_
  refine own_st (f' := (mkF m 54 #[.val (.long q0), .second, .val (.int p1), .val (.int p2), .val (.int (own_t0_7 q0 p1 p2)), .val (.int (own_t0_18 q0 p1 p2)), .val (.ref b6), .val (.ref b7)] [(.long q0), (.int (2 : Int32)), (.ref b6)])) (fun t k => XS.lloadN X11.her hx rfl (hb hby at_53) rfl k) ?_
  refine own_st (f' := (mkF m 55 #[.val (.long q0), .second, .val (.int p1), .val (.int p2), .val (.int (own_t0_7 q0 p1 p2)), .val (.int (own_t0_18 q0 p1 p2)), .val (.ref b6), .val (.ref b7)] [(.int (2 : Int32)), (.long q0), (.int (2 : Int32)), (.ref b6)])) (fun t k => XS.iconst X11.her hx rfl (hb hby at_54) k) ?_
  refine own_callSP (y := (⟨"com/example/studyferry/studyferry/dicom/DicomInputSwapPinLaw", "at", "(JI)B"⟩ : MethodName)) (W := 2) [(.long q0), (.int (2 : Int32))] X11 hx hZ hown (own_w2 hw) (own_w3 hw) (own_w4 hw) (own_w5 hw) (by decide) (own_c1 l Z a0 hw h11 n0 Zn11 q0 (2 : Int32)) (by decide) (by decide) (by decide) (by decide) (by rw [hml]; rfl) own_pd0 rfl rfl (Nat.le_of_eq rfl) (hb hby at_55) ?_
  intro T12 X12
  show own_G p e below _ T12 (mkF m 58 #[.val (.long q0), .second, .val (.int p1), .val (.int p2), .val (.int (own_t0_7 q0 p1 p2)), .val (.int (own_t0_18 q0 p1 p2)), .val (.ref b6), .val (.ref b7)] [(.int (own_F1 q0 (2 : Int32))), (.int (2 : Int32)), (.ref b6)])
  refine own_bstore X12 hx hZ B11 (by decide) (by show 2 < 8; decide) (hb hby at_58) ga_b6 (Or.inr q6) ?_
  intro T13 h13 X13 K13 W13 B13
  rw [show ((own_F1 q0 (2 : Int32))).toInt8.toInt32 = (own_F1 q0 (2 : Int32)) from own_b2 _] at B13
  replace B13 : own_B Z h13 b6 [(own_F1 q0 (0 : Int32)), (own_F1 q0 (1 : Int32)), (own_F1 q0 (2 : Int32)), (0 : Int32), (0 : Int32), (0 : Int32), (0 : Int32), (0 : Int32)] := B13
  have B13_b7 := B11_b7.keep K13 (ninS (Ne.symm ne_b6_b7) nin0)
  have Zn13 : n0 ≤ h13.size := Nat.le_trans Zn11 K13.1
  refine own_st (f' := (mkF m 61 #[.val (.long q0), .second, .val (.int p1), .val (.int p2), .val (.int (own_t0_7 q0 p1 p2)), .val (.int (own_t0_18 q0 p1 p2)), .val (.ref b6), .val (.ref b7)] [(.ref b6)])) (fun t k => XS.aload X13.her hx rfl (hb hby at_59) rfl rfl k) ?_
  refine own_st (f' := (mkF m 62 #[.val (.long q0), .second, .val (.int p1), .val (.int p2), .val (.int (own_t0_7 q0 p1 p2)), .val (.int (own_t0_18 q0 p1 p2)), .val (.ref b6), .val (.ref b7)] [(.int (3 : Int32)), (.ref b6)])) (fun t k => XS.iconst X13.her hx rfl (hb hby at_61) k) ?_
  refine own_st (f' := (mkF m 63 #[.val (.long q0), .second, .val (.int p1), .val (.int p2), .val (.int (own_t0_7 q0 p1 p2)), .val (.int (own_t0_18 q0 p1 p2)), .val (.ref b6), .val (.ref b7)] [(.long q0), (.int (3 : Int32)), (.ref b6)])) (fun t k => XS.lloadN X13.her hx rfl (hb hby at_62) rfl k) ?_
  refine own_st (f' := (mkF m 64 #[.val (.long q0), .second, .val (.int p1), .val (.int p2), .val (.int (own_t0_7 q0 p1 p2)), .val (.int (own_t0_18 q0 p1 p2)), .val (.ref b6), .val (.ref b7)] [(.int (3 : Int32)), (.long q0), (.int (3 : Int32)), (.ref b6)])) (fun t k => XS.iconst X13.her hx rfl (hb hby at_63) k) ?_
  refine own_callSP (y := (⟨"com/example/studyferry/studyferry/dicom/DicomInputSwapPinLaw", "at", "(JI)B"⟩ : MethodName)) (W := 2) [(.long q0), (.int (3 : Int32))] X13 hx hZ hown (own_w2 hw) (own_w3 hw) (own_w4 hw) (own_w5 hw) (by decide) (own_c1 l Z a0 hw h13 n0 Zn13 q0 (3 : Int32)) (by decide) (by decide) (by decide) (by decide) (by rw [hml]; rfl) own_pd0 rfl rfl (Nat.le_of_eq rfl) (hb hby at_64) ?_
  intro T14 X14
  show own_G p e below _ T14 (mkF m 67 #[.val (.long q0), .second, .val (.int p1), .val (.int p2), .val (.int (own_t0_7 q0 p1 p2)), .val (.int (own_t0_18 q0 p1 p2)), .val (.ref b6), .val (.ref b7)] [(.int (own_F1 q0 (3 : Int32))), (.int (3 : Int32)), (.ref b6)])
  refine own_bstore X14 hx hZ B13 (by decide) (by show 3 < 8; decide) (hb hby at_67) ga_b6 (Or.inr q6) ?_
  intro T15 h15 X15 K15 W15 B15
  rw [show ((own_F1 q0 (3 : Int32))).toInt8.toInt32 = (own_F1 q0 (3 : Int32)) from own_b2 _] at B15
  replace B15 : own_B Z h15 b6 [(own_F1 q0 (0 : Int32)), (own_F1 q0 (1 : Int32)), (own_F1 q0 (2 : Int32)), (own_F1 q0 (3 : Int32)), (0 : Int32), (0 : Int32), (0 : Int32), (0 : Int32)] := B15
  have B15_b7 := B13_b7.keep K15 (ninS (Ne.symm ne_b6_b7) nin0)
  have Zn15 : n0 ≤ h15.size := Nat.le_trans Zn13 K15.1
  refine own_st (f' := (mkF m 70 #[.val (.long q0), .second, .val (.int p1), .val (.int p2), .val (.int (own_t0_7 q0 p1 p2)), .val (.int (own_t0_18 q0 p1 p2)), .val (.ref b6), .val (.ref b7)] [(.ref b6)])) (fun t k => XS.aload X15.her hx rfl (hb hby at_68) rfl rfl k) ?_
  refine own_st (f' := (mkF m 71 #[.val (.long q0), .second, .val (.int p1), .val (.int p2), .val (.int (own_t0_7 q0 p1 p2)), .val (.int (own_t0_18 q0 p1 p2)), .val (.ref b6), .val (.ref b7)] [(.int (4 : Int32)), (.ref b6)])) (fun t k => XS.iconst X15.her hx rfl (hb hby at_70) k) ?_
  refine own_st (f' := (mkF m 72 #[.val (.long q0), .second, .val (.int p1), .val (.int p2), .val (.int (own_t0_7 q0 p1 p2)), .val (.int (own_t0_18 q0 p1 p2)), .val (.ref b6), .val (.ref b7)] [(.long q0), (.int (4 : Int32)), (.ref b6)])) (fun t k => XS.lloadN X15.her hx rfl (hb hby at_71) rfl k) ?_
  refine own_st (f' := (mkF m 73 #[.val (.long q0), .second, .val (.int p1), .val (.int p2), .val (.int (own_t0_7 q0 p1 p2)), .val (.int (own_t0_18 q0 p1 p2)), .val (.ref b6), .val (.ref b7)] [(.int (4 : Int32)), (.long q0), (.int (4 : Int32)), (.ref b6)])) (fun t k => XS.iconst X15.her hx rfl (hb hby at_72) k) ?_
  refine own_callSP (y := (⟨"com/example/studyferry/studyferry/dicom/DicomInputSwapPinLaw", "at", "(JI)B"⟩ : MethodName)) (W := 2) [(.long q0), (.int (4 : Int32))] X15 hx hZ hown (own_w2 hw) (own_w3 hw) (own_w4 hw) (own_w5 hw) (by decide) (own_c1 l Z a0 hw h15 n0 Zn15 q0 (4 : Int32)) (by decide) (by decide) (by decide) (by decide) (by rw [hml]; rfl) own_pd0 rfl rfl (Nat.le_of_eq rfl) (hb hby at_73) ?_
  intro T16 X16
  show own_G p e below _ T16 (mkF m 76 #[.val (.long q0), .second, .val (.int p1), .val (.int p2), .val (.int (own_t0_7 q0 p1 p2)), .val (.int (own_t0_18 q0 p1 p2)), .val (.ref b6), .val (.ref b7)] [(.int (own_F1 q0 (4 : Int32))), (.int (4 : Int32)), (.ref b6)])
  refine own_bstore X16 hx hZ B15 (by decide) (by show 4 < 8; decide) (hb hby at_76) ga_b6 (Or.inr q6) ?_
  intro T17 h17 X17 K17 W17 B17
  rw [show ((own_F1 q0 (4 : Int32))).toInt8.toInt32 = (own_F1 q0 (4 : Int32)) from own_b2 _] at B17
  replace B17 : own_B Z h17 b6 [(own_F1 q0 (0 : Int32)), (own_F1 q0 (1 : Int32)), (own_F1 q0 (2 : Int32)), (own_F1 q0 (3 : Int32)), (own_F1 q0 (4 : Int32)), (0 : Int32), (0 : Int32), (0 : Int32)] := B17
  have B17_b7 := B15_b7.keep K17 (ninS (Ne.symm ne_b6_b7) nin0)
  have Zn17 : n0 ≤ h17.size := Nat.le_trans Zn15 K17.1
  refine own_st (f' := (mkF m 79 #[.val (.long q0), .second, .val (.int p1), .val (.int p2), .val (.int (own_t0_7 q0 p1 p2)), .val (.int (own_t0_18 q0 p1 p2)), .val (.ref b6), .val (.ref b7)] [(.ref b6)])) (fun t k => XS.aload X17.her hx rfl (hb hby at_77) rfl rfl k) ?_
  refine own_st (f' := (mkF m 80 #[.val (.long q0), .second, .val (.int p1), .val (.int p2), .val (.int (own_t0_7 q0 p1 p2)), .val (.int (own_t0_18 q0 p1 p2)), .val (.ref b6), .val (.ref b7)] [(.int (5 : Int32)), (.ref b6)])) (fun t k => XS.iconst X17.her hx rfl (hb hby at_79) k) ?_
  refine own_st (f' := (mkF m 81 #[.val (.long q0), .second, .val (.int p1), .val (.int p2), .val (.int (own_t0_7 q0 p1 p2)), .val (.int (own_t0_18 q0 p1 p2)), .val (.ref b6), .val (.ref b7)] [(.long q0), (.int (5 : Int32)), (.ref b6)])) (fun t k => XS.lloadN X17.her hx rfl (hb hby at_80) rfl k) ?_
  refine own_st (f' := (mkF m 82 #[.val (.long q0), .second, .val (.int p1), .val (.int p2), .val (.int (own_t0_7 q0 p1 p2)), .val (.int (own_t0_18 q0 p1 p2)), .val (.ref b6), .val (.ref b7)] [(.int (5 : Int32)), (.long q0), (.int (5 : Int32)), (.ref b6)])) (fun t k => XS.iconst X17.her hx rfl (hb hby at_81) k) ?_
  refine own_callSP (y := (⟨"com/example/studyferry/studyferry/dicom/DicomInputSwapPinLaw", "at", "(JI)B"⟩ : MethodName)) (W := 2) [(.long q0), (.int (5 : Int32))] X17 hx hZ hown (own_w2 hw) (own_w3 hw) (own_w4 hw) (own_w5 hw) (by decide) (own_c1 l Z a0 hw h17 n0 Zn17 q0 (5 : Int32)) (by decide) (by decide) (by decide) (by decide) (by rw [hml]; rfl) own_pd0 rfl rfl (Nat.le_of_eq rfl) (hb hby at_82) ?_
  intro T18 X18
  show own_G p e below _ T18 (mkF m 85 #[.val (.long q0), .second, .val (.int p1), .val (.int p2), .val (.int (own_t0_7 q0 p1 p2)), .val (.int (own_t0_18 q0 p1 p2)), .val (.ref b6), .val (.ref b7)] [(.int (own_F1 q0 (5 : Int32))), (.int (5 : Int32)), (.ref b6)])
  refine own_bstore X18 hx hZ B17 (by decide) (by show 5 < 8; decide) (hb hby at_85) ga_b6 (Or.inr q6) ?_
  intro T19 h19 X19 K19 W19 B19
  rw [show ((own_F1 q0 (5 : Int32))).toInt8.toInt32 = (own_F1 q0 (5 : Int32)) from own_b2 _] at B19
  replace B19 : own_B Z h19 b6 [(own_F1 q0 (0 : Int32)), (own_F1 q0 (1 : Int32)), (own_F1 q0 (2 : Int32)), (own_F1 q0 (3 : Int32)), (own_F1 q0 (4 : Int32)), (own_F1 q0 (5 : Int32)), (0 : Int32), (0 : Int32)] := B19
  have B19_b7 := B17_b7.keep K19 (ninS (Ne.symm ne_b6_b7) nin0)
  have Zn19 : n0 ≤ h19.size := Nat.le_trans Zn17 K19.1
  refine own_st (f' := (mkF m 88 #[.val (.long q0), .second, .val (.int p1), .val (.int p2), .val (.int (own_t0_7 q0 p1 p2)), .val (.int (own_t0_18 q0 p1 p2)), .val (.ref b6), .val (.ref b7)] [(.ref b6)])) (fun t k => XS.aload X19.her hx rfl (hb hby at_86) rfl rfl k) ?_
  refine own_st (f' := (mkF m 90 #[.val (.long q0), .second, .val (.int p1), .val (.int p2), .val (.int (own_t0_7 q0 p1 p2)), .val (.int (own_t0_18 q0 p1 p2)), .val (.ref b6), .val (.ref b7)] [(.int (6 : Int32)), (.ref b6)])) (fun t k => XS.bipush X19.her hx rfl (hb hby at_88) k) ?_
  refine own_st (f' := (mkF m 91 #[.val (.long q0), .second, .val (.int p1), .val (.int p2), .val (.int (own_t0_7 q0 p1 p2)), .val (.int (own_t0_18 q0 p1 p2)), .val (.ref b6), .val (.ref b7)] [(.long q0), (.int (6 : Int32)), (.ref b6)])) (fun t k => XS.lloadN X19.her hx rfl (hb hby at_90) rfl k) ?_
  refine own_st (f' := (mkF m 93 #[.val (.long q0), .second, .val (.int p1), .val (.int p2), .val (.int (own_t0_7 q0 p1 p2)), .val (.int (own_t0_18 q0 p1 p2)), .val (.ref b6), .val (.ref b7)] [(.int (6 : Int32)), (.long q0), (.int (6 : Int32)), (.ref b6)])) (fun t k => XS.bipush X19.her hx rfl (hb hby at_91) k) ?_
  refine own_callSP (y := (⟨"com/example/studyferry/studyferry/dicom/DicomInputSwapPinLaw", "at", "(JI)B"⟩ : MethodName)) (W := 2) [(.long q0), (.int (6 : Int32))] X19 hx hZ hown (own_w2 hw) (own_w3 hw) (own_w4 hw) (own_w5 hw) (by decide) (own_c1 l Z a0 hw h19 n0 Zn19 q0 (6 : Int32)) (by decide) (by decide) (by decide) (by decide) (by rw [hml]; rfl) own_pd0 rfl rfl (Nat.le_of_eq rfl) (hb hby at_93) ?_
  intro T20 X20
  show own_G p e below _ T20 (mkF m 96 #[.val (.long q0), .second, .val (.int p1), .val (.int p2), .val (.int (own_t0_7 q0 p1 p2)), .val (.int (own_t0_18 q0 p1 p2)), .val (.ref b6), .val (.ref b7)] [(.int (own_F1 q0 (6 : Int32))), (.int (6 : Int32)), (.ref b6)])
  refine own_bstore X20 hx hZ B19 (by decide) (by show 6 < 8; decide) (hb hby at_96) ga_b6 (Or.inr q6) ?_
  intro T21 h21 X21 K21 W21 B21
  rw [show ((own_F1 q0 (6 : Int32))).toInt8.toInt32 = (own_F1 q0 (6 : Int32)) from own_b2 _] at B21
  replace B21 : own_B Z h21 b6 [(own_F1 q0 (0 : Int32)), (own_F1 q0 (1 : Int32)), (own_F1 q0 (2 : Int32)), (own_F1 q0 (3 : Int32)), (own_F1 q0 (4 : Int32)), (own_F1 q0 (5 : Int32)), (own_F1 q0 (6 : Int32)), (0 : Int32)] := B21
  have B21_b7 := B19_b7.keep K21 (ninS (Ne.symm ne_b6_b7) nin0)
  have Zn21 : n0 ≤ h21.size := Nat.le_trans Zn19 K21.1
  refine own_st (f' := (mkF m 99 #[.val (.long q0), .second, .val (.int p1), .val (.int p2), .val (.int (own_t0_7 q0 p1 p2)), .val (.int (own_t0_18 q0 p1 p2)), .val (.ref b6), .val (.ref b7)] [(.ref b6)])) (fun t k => XS.aload X21.her hx rfl (hb hby at_97) rfl rfl k) ?_
  refine own_st (f' := (mkF m 101 #[.val (.long q0), .second, .val (.int p1), .val (.int p2), .val (.int (own_t0_7 q0 p1 p2)), .val (.int (own_t0_18 q0 p1 p2)), .val (.ref b6), .val (.ref b7)] [(.int (7 : Int32)), (.ref b6)])) (fun t k => XS.bipush X21.her hx rfl (hb hby at_99) k) ?_
  refine own_st (f' := (mkF m 102 #[.val (.long q0), .second, .val (.int p1), .val (.int p2), .val (.int (own_t0_7 q0 p1 p2)), .val (.int (own_t0_18 q0 p1 p2)), .val (.ref b6), .val (.ref b7)] [(.long q0), (.int (7 : Int32)), (.ref b6)])) (fun t k => XS.lloadN X21.her hx rfl (hb hby at_101) rfl k) ?_
  refine own_st (f' := (mkF m 104 #[.val (.long q0), .second, .val (.int p1), .val (.int p2), .val (.int (own_t0_7 q0 p1 p2)), .val (.int (own_t0_18 q0 p1 p2)), .val (.ref b6), .val (.ref b7)] [(.int (7 : Int32)), (.long q0), (.int (7 : Int32)), (.ref b6)])) (fun t k => XS.bipush X21.her hx rfl (hb hby at_102) k) ?_
  refine own_callSP (y := (⟨"com/example/studyferry/studyferry/dicom/DicomInputSwapPinLaw", "at", "(JI)B"⟩ : MethodName)) (W := 2) [(.long q0), (.int (7 : Int32))] X21 hx hZ hown (own_w2 hw) (own_w3 hw) (own_w4 hw) (own_w5 hw) (by decide) (own_c1 l Z a0 hw h21 n0 Zn21 q0 (7 : Int32)) (by decide) (by decide) (by decide) (by decide) (by rw [hml]; rfl) own_pd0 rfl rfl (Nat.le_of_eq rfl) (hb hby at_104) ?_
  intro T22 X22
  show own_G p e below _ T22 (mkF m 107 #[.val (.long q0), .second, .val (.int p1), .val (.int p2), .val (.int (own_t0_7 q0 p1 p2)), .val (.int (own_t0_18 q0 p1 p2)), .val (.ref b6), .val (.ref b7)] [(.int (own_F1 q0 (7 : Int32))), (.int (7 : Int32)), (.ref b6)])
  refine own_bstore X22 hx hZ B21 (by decide) (by show 7 < 8; decide) (hb hby at_107) ga_b6 (Or.inr q6) ?_
  intro T23 h23 X23 K23 W23 B23
  rw [show ((own_F1 q0 (7 : Int32))).toInt8.toInt32 = (own_F1 q0 (7 : Int32)) from own_b2 _] at B23
  replace B23 : own_B Z h23 b6 [(own_F1 q0 (0 : Int32)), (own_F1 q0 (1 : Int32)), (own_F1 q0 (2 : Int32)), (own_F1 q0 (3 : Int32)), (own_F1 q0 (4 : Int32)), (own_F1 q0 (5 : Int32)), (own_F1 q0 (6 : Int32)), (own_F1 q0 (7 : Int32))] := B23
  have B23_b7 := B21_b7.keep K23 (ninS (Ne.symm ne_b6_b7) nin0)
  have Zn23 : n0 ≤ h23.size := Nat.le_trans Zn21 K23.1
  refine own_st (f' := (mkF m 110 #[.val (.long q0), .second, .val (.int p1), .val (.int p2), .val (.int (own_t0_7 q0 p1 p2)), .val (.int (own_t0_18 q0 p1 p2)), .val (.ref b6), .val (.ref b7)] [(.ref b7)])) (fun t k => XS.aload X23.her hx rfl (hb hby at_108) rfl rfl k) ?_
  refine own_st (f' := (mkF m 111 #[.val (.long q0), .second, .val (.int p1), .val (.int p2), .val (.int (own_t0_7 q0 p1 p2)), .val (.int (own_t0_18 q0 p1 p2)), .val (.ref b6), .val (.ref b7)] [(.int (0 : Int32)), (.ref b7)])) (fun t k => XS.iconst X23.her hx rfl (hb hby at_110) k) ?_
  refine own_st (f' := (mkF m 113 #[.val (.long q0), .second, .val (.int p1), .val (.int p2), .val (.int (own_t0_7 q0 p1 p2)), .val (.int (own_t0_18 q0 p1 p2)), .val (.ref b6), .val (.ref b7)] [(.ref b6), (.int (0 : Int32)), (.ref b7)])) (fun t k => XS.aload X23.her hx rfl (hb hby at_111) rfl rfl k) ?_
  refine own_st (f' := (mkF m 114 #[.val (.long q0), .second, .val (.int p1), .val (.int p2), .val (.int (own_t0_7 q0 p1 p2)), .val (.int (own_t0_18 q0 p1 p2)), .val (.ref b6), .val (.ref b7)] [(.int (0 : Int32)), (.ref b6), (.int (0 : Int32)), (.ref b7)])) (fun t k => XS.iconst X23.her hx rfl (hb hby at_113) k) ?_
  refine own_bload (v := (own_F1 q0 (0 : Int32))) X23 hx hZ B23 (by decide) rfl (hb hby at_114) ?_
  refine own_bstore X23 hx hZ B23_b7 (by decide) (by show 0 < 8; decide) (hb hby at_115) ga_b7 (Or.inr q7) ?_
  intro T24 h24 X24 K24 W24 B24
  rw [show ((own_F1 q0 (0 : Int32))).toInt8.toInt32 = (own_F1 q0 (0 : Int32)) from own_b2 _] at B24
  replace B24 : own_B Z h24 b7 [(own_F1 q0 (0 : Int32)), (0 : Int32), (0 : Int32), (0 : Int32), (0 : Int32), (0 : Int32), (0 : Int32), (0 : Int32)] := B24
  have B24_b6 := B23.keep K24 (ninS ne_b6_b7 nin0)
  have Zn24 : n0 ≤ h24.size := Nat.le_trans Zn23 K24.1
  refine own_st (f' := (mkF m 118 #[.val (.long q0), .second, .val (.int p1), .val (.int p2), .val (.int (own_t0_7 q0 p1 p2)), .val (.int (own_t0_18 q0 p1 p2)), .val (.ref b6), .val (.ref b7)] [(.ref b7)])) (fun t k => XS.aload X24.her hx rfl (hb hby at_116) rfl rfl k) ?_
  refine own_st (f' := (mkF m 119 #[.val (.long q0), .second, .val (.int p1), .val (.int p2), .val (.int (own_t0_7 q0 p1 p2)), .val (.int (own_t0_18 q0 p1 p2)), .val (.ref b6), .val (.ref b7)] [(.int (1 : Int32)), (.ref b7)])) (fun t k => XS.iconst X24.her hx rfl (hb hby at_118) k) ?_
  refine own_st (f' := (mkF m 121 #[.val (.long q0), .second, .val (.int p1), .val (.int p2), .val (.int (own_t0_7 q0 p1 p2)), .val (.int (own_t0_18 q0 p1 p2)), .val (.ref b6), .val (.ref b7)] [(.ref b6), (.int (1 : Int32)), (.ref b7)])) (fun t k => XS.aload X24.her hx rfl (hb hby at_119) rfl rfl k) ?_
  refine own_st (f' := (mkF m 122 #[.val (.long q0), .second, .val (.int p1), .val (.int p2), .val (.int (own_t0_7 q0 p1 p2)), .val (.int (own_t0_18 q0 p1 p2)), .val (.ref b6), .val (.ref b7)] [(.int (1 : Int32)), (.ref b6), (.int (1 : Int32)), (.ref b7)])) (fun t k => XS.iconst X24.her hx rfl (hb hby at_121) k) ?_
  refine own_bload (v := (own_F1 q0 (1 : Int32))) X24 hx hZ B24_b6 (by decide) rfl (hb hby at_122) ?_
  refine own_bstore X24 hx hZ B24 (by decide) (by show 1 < 8; decide) (hb hby at_123) ga_b7 (Or.inr q7) ?_
  intro T25 h25 X25 K25 W25 B25
  rw [show ((own_F1 q0 (1 : Int32))).toInt8.toInt32 = (own_F1 q0 (1 : Int32)) from own_b2 _] at B25
  replace B25 : own_B Z h25 b7 [(own_F1 q0 (0 : Int32)), (own_F1 q0 (1 : Int32)), (0 : Int32), (0 : Int32), (0 : Int32), (0 : Int32), (0 : Int32), (0 : Int32)] := B25
  have B25_b6 := B24_b6.keep K25 (ninS ne_b6_b7 nin0)
  have Zn25 : n0 ≤ h25.size := Nat.le_trans Zn24 K25.1
  refine own_st (f' := (mkF m 126 #[.val (.long q0), .second, .val (.int p1), .val (.int p2), .val (.int (own_t0_7 q0 p1 p2)), .val (.int (own_t0_18 q0 p1 p2)), .val (.ref b6), .val (.ref b7)] [(.ref b7)])) (fun t k => XS.aload X25.her hx rfl (hb hby at_124) rfl rfl k) ?_
  refine own_st (f' := (mkF m 127 #[.val (.long q0), .second, .val (.int p1), .val (.int p2), .val (.int (own_t0_7 q0 p1 p2)), .val (.int (own_t0_18 q0 p1 p2)), .val (.ref b6), .val (.ref b7)] [(.int (2 : Int32)), (.ref b7)])) (fun t k => XS.iconst X25.her hx rfl (hb hby at_126) k) ?_
  refine own_st (f' := (mkF m 129 #[.val (.long q0), .second, .val (.int p1), .val (.int p2), .val (.int (own_t0_7 q0 p1 p2)), .val (.int (own_t0_18 q0 p1 p2)), .val (.ref b6), .val (.ref b7)] [(.ref b6), (.int (2 : Int32)), (.ref b7)])) (fun t k => XS.aload X25.her hx rfl (hb hby at_127) rfl rfl k) ?_
  refine own_st (f' := (mkF m 130 #[.val (.long q0), .second, .val (.int p1), .val (.int p2), .val (.int (own_t0_7 q0 p1 p2)), .val (.int (own_t0_18 q0 p1 p2)), .val (.ref b6), .val (.ref b7)] [(.int (2 : Int32)), (.ref b6), (.int (2 : Int32)), (.ref b7)])) (fun t k => XS.iconst X25.her hx rfl (hb hby at_129) k) ?_
  refine own_bload (v := (own_F1 q0 (2 : Int32))) X25 hx hZ B25_b6 (by decide) rfl (hb hby at_130) ?_
  refine own_bstore X25 hx hZ B25 (by decide) (by show 2 < 8; decide) (hb hby at_131) ga_b7 (Or.inr q7) ?_
  intro T26 h26 X26 K26 W26 B26
  rw [show ((own_F1 q0 (2 : Int32))).toInt8.toInt32 = (own_F1 q0 (2 : Int32)) from own_b2 _] at B26
  replace B26 : own_B Z h26 b7 [(own_F1 q0 (0 : Int32)), (own_F1 q0 (1 : Int32)), (own_F1 q0 (2 : Int32)), (0 : Int32), (0 : Int32), (0 : Int32), (0 : Int32), (0 : Int32)] := B26
  have B26_b6 := B25_b6.keep K26 (ninS ne_b6_b7 nin0)
  have Zn26 : n0 ≤ h26.size := Nat.le_trans Zn25 K26.1
  refine own_st (f' := (mkF m 134 #[.val (.long q0), .second, .val (.int p1), .val (.int p2), .val (.int (own_t0_7 q0 p1 p2)), .val (.int (own_t0_18 q0 p1 p2)), .val (.ref b6), .val (.ref b7)] [(.ref b7)])) (fun t k => XS.aload X26.her hx rfl (hb hby at_132) rfl rfl k) ?_
  refine own_st (f' := (mkF m 135 #[.val (.long q0), .second, .val (.int p1), .val (.int p2), .val (.int (own_t0_7 q0 p1 p2)), .val (.int (own_t0_18 q0 p1 p2)), .val (.ref b6), .val (.ref b7)] [(.int (3 : Int32)), (.ref b7)])) (fun t k => XS.iconst X26.her hx rfl (hb hby at_134) k) ?_
  refine own_st (f' := (mkF m 137 #[.val (.long q0), .second, .val (.int p1), .val (.int p2), .val (.int (own_t0_7 q0 p1 p2)), .val (.int (own_t0_18 q0 p1 p2)), .val (.ref b6), .val (.ref b7)] [(.ref b6), (.int (3 : Int32)), (.ref b7)])) (fun t k => XS.aload X26.her hx rfl (hb hby at_135) rfl rfl k) ?_
  refine own_st (f' := (mkF m 138 #[.val (.long q0), .second, .val (.int p1), .val (.int p2), .val (.int (own_t0_7 q0 p1 p2)), .val (.int (own_t0_18 q0 p1 p2)), .val (.ref b6), .val (.ref b7)] [(.int (3 : Int32)), (.ref b6), (.int (3 : Int32)), (.ref b7)])) (fun t k => XS.iconst X26.her hx rfl (hb hby at_137) k) ?_
  refine own_bload (v := (own_F1 q0 (3 : Int32))) X26 hx hZ B26_b6 (by decide) rfl (hb hby at_138) ?_
  refine own_bstore X26 hx hZ B26 (by decide) (by show 3 < 8; decide) (hb hby at_139) ga_b7 (Or.inr q7) ?_
  intro T27 h27 X27 K27 W27 B27
  rw [show ((own_F1 q0 (3 : Int32))).toInt8.toInt32 = (own_F1 q0 (3 : Int32)) from own_b2 _] at B27
  replace B27 : own_B Z h27 b7 [(own_F1 q0 (0 : Int32)), (own_F1 q0 (1 : Int32)), (own_F1 q0 (2 : Int32)), (own_F1 q0 (3 : Int32)), (0 : Int32), (0 : Int32), (0 : Int32), (0 : Int32)] := B27
  have B27_b6 := B26_b6.keep K27 (ninS ne_b6_b7 nin0)
  have Zn27 : n0 ≤ h27.size := Nat.le_trans Zn26 K27.1
  refine own_st (f' := (mkF m 142 #[.val (.long q0), .second, .val (.int p1), .val (.int p2), .val (.int (own_t0_7 q0 p1 p2)), .val (.int (own_t0_18 q0 p1 p2)), .val (.ref b6), .val (.ref b7)] [(.ref b7)])) (fun t k => XS.aload X27.her hx rfl (hb hby at_140) rfl rfl k) ?_
  refine own_st (f' := (mkF m 143 #[.val (.long q0), .second, .val (.int p1), .val (.int p2), .val (.int (own_t0_7 q0 p1 p2)), .val (.int (own_t0_18 q0 p1 p2)), .val (.ref b6), .val (.ref b7)] [(.int (4 : Int32)), (.ref b7)])) (fun t k => XS.iconst X27.her hx rfl (hb hby at_142) k) ?_
  refine own_st (f' := (mkF m 145 #[.val (.long q0), .second, .val (.int p1), .val (.int p2), .val (.int (own_t0_7 q0 p1 p2)), .val (.int (own_t0_18 q0 p1 p2)), .val (.ref b6), .val (.ref b7)] [(.ref b6), (.int (4 : Int32)), (.ref b7)])) (fun t k => XS.aload X27.her hx rfl (hb hby at_143) rfl rfl k) ?_
  refine own_st (f' := (mkF m 146 #[.val (.long q0), .second, .val (.int p1), .val (.int p2), .val (.int (own_t0_7 q0 p1 p2)), .val (.int (own_t0_18 q0 p1 p2)), .val (.ref b6), .val (.ref b7)] [(.int (4 : Int32)), (.ref b6), (.int (4 : Int32)), (.ref b7)])) (fun t k => XS.iconst X27.her hx rfl (hb hby at_145) k) ?_
  refine own_bload (v := (own_F1 q0 (4 : Int32))) X27 hx hZ B27_b6 (by decide) rfl (hb hby at_146) ?_
  refine own_bstore X27 hx hZ B27 (by decide) (by show 4 < 8; decide) (hb hby at_147) ga_b7 (Or.inr q7) ?_
  intro T28 h28 X28 K28 W28 B28
  rw [show ((own_F1 q0 (4 : Int32))).toInt8.toInt32 = (own_F1 q0 (4 : Int32)) from own_b2 _] at B28
  replace B28 : own_B Z h28 b7 [(own_F1 q0 (0 : Int32)), (own_F1 q0 (1 : Int32)), (own_F1 q0 (2 : Int32)), (own_F1 q0 (3 : Int32)), (own_F1 q0 (4 : Int32)), (0 : Int32), (0 : Int32), (0 : Int32)] := B28
  have B28_b6 := B27_b6.keep K28 (ninS ne_b6_b7 nin0)
  have Zn28 : n0 ≤ h28.size := Nat.le_trans Zn27 K28.1
  refine own_st (f' := (mkF m 150 #[.val (.long q0), .second, .val (.int p1), .val (.int p2), .val (.int (own_t0_7 q0 p1 p2)), .val (.int (own_t0_18 q0 p1 p2)), .val (.ref b6), .val (.ref b7)] [(.ref b7)])) (fun t k => XS.aload X28.her hx rfl (hb hby at_148) rfl rfl k) ?_
  refine own_st (f' := (mkF m 151 #[.val (.long q0), .second, .val (.int p1), .val (.int p2), .val (.int (own_t0_7 q0 p1 p2)), .val (.int (own_t0_18 q0 p1 p2)), .val (.ref b6), .val (.ref b7)] [(.int (5 : Int32)), (.ref b7)])) (fun t k => XS.iconst X28.her hx rfl (hb hby at_150) k) ?_
  refine own_st (f' := (mkF m 153 #[.val (.long q0), .second, .val (.int p1), .val (.int p2), .val (.int (own_t0_7 q0 p1 p2)), .val (.int (own_t0_18 q0 p1 p2)), .val (.ref b6), .val (.ref b7)] [(.ref b6), (.int (5 : Int32)), (.ref b7)])) (fun t k => XS.aload X28.her hx rfl (hb hby at_151) rfl rfl k) ?_
  refine own_st (f' := (mkF m 154 #[.val (.long q0), .second, .val (.int p1), .val (.int p2), .val (.int (own_t0_7 q0 p1 p2)), .val (.int (own_t0_18 q0 p1 p2)), .val (.ref b6), .val (.ref b7)] [(.int (5 : Int32)), (.ref b6), (.int (5 : Int32)), (.ref b7)])) (fun t k => XS.iconst X28.her hx rfl (hb hby at_153) k) ?_
  refine own_bload (v := (own_F1 q0 (5 : Int32))) X28 hx hZ B28_b6 (by decide) rfl (hb hby at_154) ?_
  refine own_bstore X28 hx hZ B28 (by decide) (by show 5 < 8; decide) (hb hby at_155) ga_b7 (Or.inr q7) ?_
  intro T29 h29 X29 K29 W29 B29
  rw [show ((own_F1 q0 (5 : Int32))).toInt8.toInt32 = (own_F1 q0 (5 : Int32)) from own_b2 _] at B29
  replace B29 : own_B Z h29 b7 [(own_F1 q0 (0 : Int32)), (own_F1 q0 (1 : Int32)), (own_F1 q0 (2 : Int32)), (own_F1 q0 (3 : Int32)), (own_F1 q0 (4 : Int32)), (own_F1 q0 (5 : Int32)), (0 : Int32), (0 : Int32)] := B29
  have B29_b6 := B28_b6.keep K29 (ninS ne_b6_b7 nin0)
  have Zn29 : n0 ≤ h29.size := Nat.le_trans Zn28 K29.1
  refine own_st (f' := (mkF m 158 #[.val (.long q0), .second, .val (.int p1), .val (.int p2), .val (.int (own_t0_7 q0 p1 p2)), .val (.int (own_t0_18 q0 p1 p2)), .val (.ref b6), .val (.ref b7)] [(.ref b7)])) (fun t k => XS.aload X29.her hx rfl (hb hby at_156) rfl rfl k) ?_
  refine own_st (f' := (mkF m 160 #[.val (.long q0), .second, .val (.int p1), .val (.int p2), .val (.int (own_t0_7 q0 p1 p2)), .val (.int (own_t0_18 q0 p1 p2)), .val (.ref b6), .val (.ref b7)] [(.int (6 : Int32)), (.ref b7)])) (fun t k => XS.bipush X29.her hx rfl (hb hby at_158) k) ?_
  refine own_st (f' := (mkF m 162 #[.val (.long q0), .second, .val (.int p1), .val (.int p2), .val (.int (own_t0_7 q0 p1 p2)), .val (.int (own_t0_18 q0 p1 p2)), .val (.ref b6), .val (.ref b7)] [(.ref b6), (.int (6 : Int32)), (.ref b7)])) (fun t k => XS.aload X29.her hx rfl (hb hby at_160) rfl rfl k) ?_
  refine own_st (f' := (mkF m 164 #[.val (.long q0), .second, .val (.int p1), .val (.int p2), .val (.int (own_t0_7 q0 p1 p2)), .val (.int (own_t0_18 q0 p1 p2)), .val (.ref b6), .val (.ref b7)] [(.int (6 : Int32)), (.ref b6), (.int (6 : Int32)), (.ref b7)])) (fun t k => XS.bipush X29.her hx rfl (hb hby at_162) k) ?_
  refine own_bload (v := (own_F1 q0 (6 : Int32))) X29 hx hZ B29_b6 (by decide) rfl (hb hby at_164) ?_
  refine own_bstore X29 hx hZ B29 (by decide) (by show 6 < 8; decide) (hb hby at_165) ga_b7 (Or.inr q7) ?_
  intro T30 h30 X30 K30 W30 B30
  rw [show ((own_F1 q0 (6 : Int32))).toInt8.toInt32 = (own_F1 q0 (6 : Int32)) from own_b2 _] at B30
  replace B30 : own_B Z h30 b7 [(own_F1 q0 (0 : Int32)), (own_F1 q0 (1 : Int32)), (own_F1 q0 (2 : Int32)), (own_F1 q0 (3 : Int32)), (own_F1 q0 (4 : Int32)), (own_F1 q0 (5 : Int32)), (own_F1 q0 (6 : Int32)), (0 : Int32)] := B30
  have B30_b6 := B29_b6.keep K30 (ninS ne_b6_b7 nin0)
  have Zn30 : n0 ≤ h30.size := Nat.le_trans Zn29 K30.1
  refine own_st (f' := (mkF m 168 #[.val (.long q0), .second, .val (.int p1), .val (.int p2), .val (.int (own_t0_7 q0 p1 p2)), .val (.int (own_t0_18 q0 p1 p2)), .val (.ref b6), .val (.ref b7)] [(.ref b7)])) (fun t k => XS.aload X30.her hx rfl (hb hby at_166) rfl rfl k) ?_
  refine own_st (f' := (mkF m 170 #[.val (.long q0), .second, .val (.int p1), .val (.int p2), .val (.int (own_t0_7 q0 p1 p2)), .val (.int (own_t0_18 q0 p1 p2)), .val (.ref b6), .val (.ref b7)] [(.int (7 : Int32)), (.ref b7)])) (fun t k => XS.bipush X30.her hx rfl (hb hby at_168) k) ?_
  refine own_st (f' := (mkF m 172 #[.val (.long q0), .second, .val (.int p1), .val (.int p2), .val (.int (own_t0_7 q0 p1 p2)), .val (.int (own_t0_18 q0 p1 p2)), .val (.ref b6), .val (.ref b7)] [(.ref b6), (.int (7 : Int32)), (.ref b7)])) (fun t k => XS.aload X30.her hx rfl (hb hby at_170) rfl rfl k) ?_
  refine own_st (f' := (mkF m 174 #[.val (.long q0), .second, .val (.int p1), .val (.int p2), .val (.int (own_t0_7 q0 p1 p2)), .val (.int (own_t0_18 q0 p1 p2)), .val (.ref b6), .val (.ref b7)] [(.int (7 : Int32)), (.ref b6), (.int (7 : Int32)), (.ref b7)])) (fun t k => XS.bipush X30.her hx rfl (hb hby at_172) k) ?_
  refine own_bload (v := (own_F1 q0 (7 : Int32))) X30 hx hZ B30_b6 (by decide) rfl (hb hby at_174) ?_
  refine own_bstore X30 hx hZ B30 (by decide) (by show 7 < 8; decide) (hb hby at_175) ga_b7 (Or.inr q7) ?_
  intro T31 h31 X31 K31 W31 B31
  rw [show ((own_F1 q0 (7 : Int32))).toInt8.toInt32 = (own_F1 q0 (7 : Int32)) from own_b2 _] at B31
  replace B31 : own_B Z h31 b7 [(own_F1 q0 (0 : Int32)), (own_F1 q0 (1 : Int32)), (own_F1 q0 (2 : Int32)), (own_F1 q0 (3 : Int32)), (own_F1 q0 (4 : Int32)), (own_F1 q0 (5 : Int32)), (own_F1 q0 (6 : Int32)), (own_F1 q0 (7 : Int32))] := B31
  have B31_b6 := B30_b6.keep K31 (ninS ne_b6_b7 nin0)
  have Zn31 : n0 ≤ h31.size := Nat.le_trans Zn30 K31.1
  refine own_st (f' := (mkF m 178 #[.val (.long q0), .second, .val (.int p1), .val (.int p2), .val (.int (own_t0_7 q0 p1 p2)), .val (.int (own_t0_18 q0 p1 p2)), .val (.ref b6), .val (.ref b7)] [(.ref b7)])) (fun t k => XS.aload X31.her hx rfl (hb hby at_176) rfl rfl k) ?_
  refine own_st (f' := (mkF m 180 #[.val (.long q0), .second, .val (.int p1), .val (.int p2), .val (.int (own_t0_7 q0 p1 p2)), .val (.int (own_t0_18 q0 p1 p2)), .val (.ref b6), .val (.ref b7)] [(.int (own_t0_7 q0 p1 p2)), (.ref b7)])) (fun t k => XS.iload X31.her hx rfl (hb hby at_178) rfl k) ?_
  refine own_st (f' := (mkF m 182 #[.val (.long q0), .second, .val (.int p1), .val (.int p2), .val (.int (own_t0_7 q0 p1 p2)), .val (.int (own_t0_18 q0 p1 p2)), .val (.ref b6), .val (.ref b7)] [(.int (own_t0_18 q0 p1 p2)), (.int (own_t0_7 q0 p1 p2)), (.ref b7)])) (fun t k => XS.iload X31.her hx rfl (hb hby at_180) rfl k) ?_
  refine own_callS (y := (⟨"com/example/studyferry/studyferry/dicom/DicomInput", "swap", "([BII)V"⟩ : MethodName)) (W := 0) [(.ref b7), (.int (own_t0_7 q0 p1 p2)), (.int (own_t0_18 q0 p1 p2))] X31 hx hZ hown (own_w6 hw) (own_w7 hw) (own_w8 hw) (own_w9 hw) (by decide) (own_c2 l Z a0 hw h31 n0 Zn31 b7 (own_t0_7 q0 p1 p2) (own_t0_18 q0 p1 p2) (own_E q0) B31 ga_b7 (own_EB q0) rfl (own_rn q0 p1 p2).2 (own_rs q0 p1 p2).1 (own_rs q0 p1 p2).2) (allS (Or.inr q7) all0) (by decide) (by decide) (by decide) (by decide) (by rw [hml]; rfl) own_pd1 rfl rfl (Nat.le_of_eq rfl) (hb hby at_182) ?_
  rintro v32 T32 h32 X32 K32 ⟨rfl, B32⟩
  have B32_b6 := B31_b6.keep K32 (ninS ne_b6_b7 nin0)
  have Zn32 : n0 ≤ h32.size := Nat.le_trans Zn31 K32.1
  show own_G p e below _ T32 (mkF m 185 #[.val (.long q0), .second, .val (.int p1), .val (.int p2), .val (.int (own_t0_7 q0 p1 p2)), .val (.int (own_t0_18 q0 p1 p2)), .val (.ref b6), .val (.ref b7)] [])
  refine own_st (f' := (mkF m 187 #[.val (.long q0), .second, .val (.int p1), .val (.int p2), .val (.int (own_t0_7 q0 p1 p2)), .val (.int (own_t0_18 q0 p1 p2)), .val (.ref b6), .val (.ref b7)] [(.ref b7)])) (fun t k => XS.aload X32.her hx rfl (hb hby at_185) rfl rfl k) ?_
  refine own_st (f' := (mkF m 188 #[.val (.long q0), .second, .val (.int p1), .val (.int p2), .val (.int (own_t0_7 q0 p1 p2)), .val (.int (own_t0_18 q0 p1 p2)), .val (.ref b6), .val (.ref b7)] [(.int (0 : Int32)), (.ref b7)])) (fun t k => XS.iconst X32.her hx rfl (hb hby at_187) k) ?_
  refine own_bload (v := ((own_out 0 (own_t0_7 q0 p1 p2) (own_t0_18 q0 p1 p2) 9 (0 : Int32) (own_E q0)).getD 0 0)) X32 hx hZ B32 (by decide) (own_gd _ _ (by rw [own_out_len]; show 0 < 8; decide)) (hb hby at_188) ?_
  refine own_st (f' := (mkF m 191 #[.val (.long q0), .second, .val (.int p1), .val (.int p2), .val (.int (own_t0_7 q0 p1 p2)), .val (.int (own_t0_18 q0 p1 p2)), .val (.ref b6), .val (.ref b7)] [(.ref b6), (.int ((own_out 0 (own_t0_7 q0 p1 p2) (own_t0_18 q0 p1 p2) 9 (0 : Int32) (own_E q0)).getD 0 0))])) (fun t k => XS.aload X32.her hx rfl (hb hby at_189) rfl rfl k) ?_
  refine own_st (f' := (mkF m 192 #[.val (.long q0), .second, .val (.int p1), .val (.int p2), .val (.int (own_t0_7 q0 p1 p2)), .val (.int (own_t0_18 q0 p1 p2)), .val (.ref b6), .val (.ref b7)] [(.int (0 : Int32)), (.ref b6), (.int ((own_out 0 (own_t0_7 q0 p1 p2) (own_t0_18 q0 p1 p2) 9 (0 : Int32) (own_E q0)).getD 0 0))])) (fun t k => XS.iconst X32.her hx rfl (hb hby at_191) k) ?_
  refine own_st (f' := (mkF m 194 #[.val (.long q0), .second, .val (.int p1), .val (.int p2), .val (.int (own_t0_7 q0 p1 p2)), .val (.int (own_t0_18 q0 p1 p2)), .val (.ref b6), .val (.ref b7)] [(.int (own_t0_7 q0 p1 p2)), (.int (0 : Int32)), (.ref b6), (.int ((own_out 0 (own_t0_7 q0 p1 p2) (own_t0_18 q0 p1 p2) 9 (0 : Int32) (own_E q0)).getD 0 0))])) (fun t k => XS.iload X32.her hx rfl (hb hby at_192) rfl k) ?_
  refine own_st (f' := (mkF m 196 #[.val (.long q0), .second, .val (.int p1), .val (.int p2), .val (.int (own_t0_7 q0 p1 p2)), .val (.int (own_t0_18 q0 p1 p2)), .val (.ref b6), .val (.ref b7)] [(.int (own_t0_18 q0 p1 p2)), (.int (own_t0_7 q0 p1 p2)), (.int (0 : Int32)), (.ref b6), (.int ((own_out 0 (own_t0_7 q0 p1 p2) (own_t0_18 q0 p1 p2) 9 (0 : Int32) (own_E q0)).getD 0 0))])) (fun t k => XS.iload X32.her hx rfl (hb hby at_194) rfl k) ?_
  refine own_callSP (y := (⟨"com/example/studyferry/studyferry/dicom/DicomInputSwapPinLaw", "expected", "([BIII)B"⟩ : MethodName)) (W := 1) [(.ref b6), (.int (0 : Int32)), (.int (own_t0_7 q0 p1 p2)), (.int (own_t0_18 q0 p1 p2))] X32 hx hZ hown (own_w10 hw) (own_w11 hw) (own_w4 hw) (own_w12 hw) (by decide) (own_c3 l Z a0 hw h32 n0 Zn32 b6 (0 : Int32) (own_t0_7 q0 p1 p2) (own_t0_18 q0 p1 p2) (own_E q0) B32_b6 (own_EB q0) (own_s0 q0 p1 p2) (by decide) (by show 0 < 8; decide) (own_hix q0 p1 p2 ⟨0, by decide⟩)) (by decide) (by decide) (by decide) (by decide) (by rw [hml]; rfl) own_pd2 rfl rfl (Nat.le_of_eq rfl) (hb hby at_196) ?_
  intro T33 X33
  show own_G p e below _ T33 (mkF m 199 #[.val (.long q0), .second, .val (.int p1), .val (.int p2), .val (.int (own_t0_7 q0 p1 p2)), .val (.int (own_t0_18 q0 p1 p2)), .val (.ref b6), .val (.ref b7)] [(.int (own_F3 (0 : Int32) (own_t0_7 q0 p1 p2) (own_t0_18 q0 p1 p2) (own_E q0))), (.int ((own_out 0 (own_t0_7 q0 p1 p2) (own_t0_18 q0 p1 p2) 9 (0 : Int32) (own_E q0)).getD 0 0))])
  refine own_st (f' := (mkF m 202 #[.val (.long q0), .second, .val (.int p1), .val (.int p2), .val (.int (own_t0_7 q0 p1 p2)), .val (.int (own_t0_18 q0 p1 p2)), .val (.ref b6), .val (.ref b7)] [])) (fun t k => XS.icmpNo X33.her hx rfl (hb hby at_199) rfl (teq (own_fin q0 p1 p2 ⟨0, by decide⟩ : ((own_out 0 (own_t0_7 q0 p1 p2) (own_t0_18 q0 p1 p2) 9 (0 : Int32) (own_E q0)).getD 0 0) = (own_F3 (0 : Int32) (own_t0_7 q0 p1 p2) (own_t0_18 q0 p1 p2) (own_E q0)))).2 k) ?_
  refine own_st (f' := (mkF m 204 #[.val (.long q0), .second, .val (.int p1), .val (.int p2), .val (.int (own_t0_7 q0 p1 p2)), .val (.int (own_t0_18 q0 p1 p2)), .val (.ref b6), .val (.ref b7)] [(.ref b7)])) (fun t k => XS.aload X33.her hx rfl (hb hby at_202) rfl rfl k) ?_
  refine own_st (f' := (mkF m 205 #[.val (.long q0), .second, .val (.int p1), .val (.int p2), .val (.int (own_t0_7 q0 p1 p2)), .val (.int (own_t0_18 q0 p1 p2)), .val (.ref b6), .val (.ref b7)] [(.int (1 : Int32)), (.ref b7)])) (fun t k => XS.iconst X33.her hx rfl (hb hby at_204) k) ?_
  refine own_bload (v := ((own_out 0 (own_t0_7 q0 p1 p2) (own_t0_18 q0 p1 p2) 9 (0 : Int32) (own_E q0)).getD 1 0)) X33 hx hZ B32 (by decide) (own_gd _ _ (by rw [own_out_len]; show 1 < 8; decide)) (hb hby at_205) ?_
  refine own_st (f' := (mkF m 208 #[.val (.long q0), .second, .val (.int p1), .val (.int p2), .val (.int (own_t0_7 q0 p1 p2)), .val (.int (own_t0_18 q0 p1 p2)), .val (.ref b6), .val (.ref b7)] [(.ref b6), (.int ((own_out 0 (own_t0_7 q0 p1 p2) (own_t0_18 q0 p1 p2) 9 (0 : Int32) (own_E q0)).getD 1 0))])) (fun t k => XS.aload X33.her hx rfl (hb hby at_206) rfl rfl k) ?_
  refine own_st (f' := (mkF m 209 #[.val (.long q0), .second, .val (.int p1), .val (.int p2), .val (.int (own_t0_7 q0 p1 p2)), .val (.int (own_t0_18 q0 p1 p2)), .val (.ref b6), .val (.ref b7)] [(.int (1 : Int32)), (.ref b6), (.int ((own_out 0 (own_t0_7 q0 p1 p2) (own_t0_18 q0 p1 p2) 9 (0 : Int32) (own_E q0)).getD 1 0))])) (fun t k => XS.iconst X33.her hx rfl (hb hby at_208) k) ?_
  refine own_st (f' := (mkF m 211 #[.val (.long q0), .second, .val (.int p1), .val (.int p2), .val (.int (own_t0_7 q0 p1 p2)), .val (.int (own_t0_18 q0 p1 p2)), .val (.ref b6), .val (.ref b7)] [(.int (own_t0_7 q0 p1 p2)), (.int (1 : Int32)), (.ref b6), (.int ((own_out 0 (own_t0_7 q0 p1 p2) (own_t0_18 q0 p1 p2) 9 (0 : Int32) (own_E q0)).getD 1 0))])) (fun t k => XS.iload X33.her hx rfl (hb hby at_209) rfl k) ?_
  refine own_st (f' := (mkF m 213 #[.val (.long q0), .second, .val (.int p1), .val (.int p2), .val (.int (own_t0_7 q0 p1 p2)), .val (.int (own_t0_18 q0 p1 p2)), .val (.ref b6), .val (.ref b7)] [(.int (own_t0_18 q0 p1 p2)), (.int (own_t0_7 q0 p1 p2)), (.int (1 : Int32)), (.ref b6), (.int ((own_out 0 (own_t0_7 q0 p1 p2) (own_t0_18 q0 p1 p2) 9 (0 : Int32) (own_E q0)).getD 1 0))])) (fun t k => XS.iload X33.her hx rfl (hb hby at_211) rfl k) ?_
  refine own_callSP (y := (⟨"com/example/studyferry/studyferry/dicom/DicomInputSwapPinLaw", "expected", "([BIII)B"⟩ : MethodName)) (W := 1) [(.ref b6), (.int (1 : Int32)), (.int (own_t0_7 q0 p1 p2)), (.int (own_t0_18 q0 p1 p2))] X33 hx hZ hown (own_w10 hw) (own_w11 hw) (own_w4 hw) (own_w12 hw) (by decide) (own_c3 l Z a0 hw h32 n0 Zn32 b6 (1 : Int32) (own_t0_7 q0 p1 p2) (own_t0_18 q0 p1 p2) (own_E q0) B32_b6 (own_EB q0) (own_s0 q0 p1 p2) (by decide) (by show 1 < 8; decide) (own_hix q0 p1 p2 ⟨1, by decide⟩)) (by decide) (by decide) (by decide) (by decide) (by rw [hml]; rfl) own_pd2 rfl rfl (Nat.le_of_eq rfl) (hb hby at_213) ?_
  intro T34 X34
  show own_G p e below _ T34 (mkF m 216 #[.val (.long q0), .second, .val (.int p1), .val (.int p2), .val (.int (own_t0_7 q0 p1 p2)), .val (.int (own_t0_18 q0 p1 p2)), .val (.ref b6), .val (.ref b7)] [(.int (own_F3 (1 : Int32) (own_t0_7 q0 p1 p2) (own_t0_18 q0 p1 p2) (own_E q0))), (.int ((own_out 0 (own_t0_7 q0 p1 p2) (own_t0_18 q0 p1 p2) 9 (0 : Int32) (own_E q0)).getD 1 0))])
  refine own_st (f' := (mkF m 219 #[.val (.long q0), .second, .val (.int p1), .val (.int p2), .val (.int (own_t0_7 q0 p1 p2)), .val (.int (own_t0_18 q0 p1 p2)), .val (.ref b6), .val (.ref b7)] [])) (fun t k => XS.icmpNo X34.her hx rfl (hb hby at_216) rfl (teq (own_fin q0 p1 p2 ⟨1, by decide⟩ : ((own_out 0 (own_t0_7 q0 p1 p2) (own_t0_18 q0 p1 p2) 9 (0 : Int32) (own_E q0)).getD 1 0) = (own_F3 (1 : Int32) (own_t0_7 q0 p1 p2) (own_t0_18 q0 p1 p2) (own_E q0)))).2 k) ?_
  refine own_st (f' := (mkF m 221 #[.val (.long q0), .second, .val (.int p1), .val (.int p2), .val (.int (own_t0_7 q0 p1 p2)), .val (.int (own_t0_18 q0 p1 p2)), .val (.ref b6), .val (.ref b7)] [(.ref b7)])) (fun t k => XS.aload X34.her hx rfl (hb hby at_219) rfl rfl k) ?_
  refine own_st (f' := (mkF m 222 #[.val (.long q0), .second, .val (.int p1), .val (.int p2), .val (.int (own_t0_7 q0 p1 p2)), .val (.int (own_t0_18 q0 p1 p2)), .val (.ref b6), .val (.ref b7)] [(.int (2 : Int32)), (.ref b7)])) (fun t k => XS.iconst X34.her hx rfl (hb hby at_221) k) ?_
  refine own_bload (v := ((own_out 0 (own_t0_7 q0 p1 p2) (own_t0_18 q0 p1 p2) 9 (0 : Int32) (own_E q0)).getD 2 0)) X34 hx hZ B32 (by decide) (own_gd _ _ (by rw [own_out_len]; show 2 < 8; decide)) (hb hby at_222) ?_
  refine own_st (f' := (mkF m 225 #[.val (.long q0), .second, .val (.int p1), .val (.int p2), .val (.int (own_t0_7 q0 p1 p2)), .val (.int (own_t0_18 q0 p1 p2)), .val (.ref b6), .val (.ref b7)] [(.ref b6), (.int ((own_out 0 (own_t0_7 q0 p1 p2) (own_t0_18 q0 p1 p2) 9 (0 : Int32) (own_E q0)).getD 2 0))])) (fun t k => XS.aload X34.her hx rfl (hb hby at_223) rfl rfl k) ?_
  refine own_st (f' := (mkF m 226 #[.val (.long q0), .second, .val (.int p1), .val (.int p2), .val (.int (own_t0_7 q0 p1 p2)), .val (.int (own_t0_18 q0 p1 p2)), .val (.ref b6), .val (.ref b7)] [(.int (2 : Int32)), (.ref b6), (.int ((own_out 0 (own_t0_7 q0 p1 p2) (own_t0_18 q0 p1 p2) 9 (0 : Int32) (own_E q0)).getD 2 0))])) (fun t k => XS.iconst X34.her hx rfl (hb hby at_225) k) ?_
  refine own_st (f' := (mkF m 228 #[.val (.long q0), .second, .val (.int p1), .val (.int p2), .val (.int (own_t0_7 q0 p1 p2)), .val (.int (own_t0_18 q0 p1 p2)), .val (.ref b6), .val (.ref b7)] [(.int (own_t0_7 q0 p1 p2)), (.int (2 : Int32)), (.ref b6), (.int ((own_out 0 (own_t0_7 q0 p1 p2) (own_t0_18 q0 p1 p2) 9 (0 : Int32) (own_E q0)).getD 2 0))])) (fun t k => XS.iload X34.her hx rfl (hb hby at_226) rfl k) ?_
  refine own_st (f' := (mkF m 230 #[.val (.long q0), .second, .val (.int p1), .val (.int p2), .val (.int (own_t0_7 q0 p1 p2)), .val (.int (own_t0_18 q0 p1 p2)), .val (.ref b6), .val (.ref b7)] [(.int (own_t0_18 q0 p1 p2)), (.int (own_t0_7 q0 p1 p2)), (.int (2 : Int32)), (.ref b6), (.int ((own_out 0 (own_t0_7 q0 p1 p2) (own_t0_18 q0 p1 p2) 9 (0 : Int32) (own_E q0)).getD 2 0))])) (fun t k => XS.iload X34.her hx rfl (hb hby at_228) rfl k) ?_
  refine own_callSP (y := (⟨"com/example/studyferry/studyferry/dicom/DicomInputSwapPinLaw", "expected", "([BIII)B"⟩ : MethodName)) (W := 1) [(.ref b6), (.int (2 : Int32)), (.int (own_t0_7 q0 p1 p2)), (.int (own_t0_18 q0 p1 p2))] X34 hx hZ hown (own_w10 hw) (own_w11 hw) (own_w4 hw) (own_w12 hw) (by decide) (own_c3 l Z a0 hw h32 n0 Zn32 b6 (2 : Int32) (own_t0_7 q0 p1 p2) (own_t0_18 q0 p1 p2) (own_E q0) B32_b6 (own_EB q0) (own_s0 q0 p1 p2) (by decide) (by show 2 < 8; decide) (own_hix q0 p1 p2 ⟨2, by decide⟩)) (by decide) (by decide) (by decide) (by decide) (by rw [hml]; rfl) own_pd2 rfl rfl (Nat.le_of_eq rfl) (hb hby at_230) ?_
  intro T35 X35
  show own_G p e below _ T35 (mkF m 233 #[.val (.long q0), .second, .val (.int p1), .val (.int p2), .val (.int (own_t0_7 q0 p1 p2)), .val (.int (own_t0_18 q0 p1 p2)), .val (.ref b6), .val (.ref b7)] [(.int (own_F3 (2 : Int32) (own_t0_7 q0 p1 p2) (own_t0_18 q0 p1 p2) (own_E q0))), (.int ((own_out 0 (own_t0_7 q0 p1 p2) (own_t0_18 q0 p1 p2) 9 (0 : Int32) (own_E q0)).getD 2 0))])
  refine own_st (f' := (mkF m 236 #[.val (.long q0), .second, .val (.int p1), .val (.int p2), .val (.int (own_t0_7 q0 p1 p2)), .val (.int (own_t0_18 q0 p1 p2)), .val (.ref b6), .val (.ref b7)] [])) (fun t k => XS.icmpNo X35.her hx rfl (hb hby at_233) rfl (teq (own_fin q0 p1 p2 ⟨2, by decide⟩ : ((own_out 0 (own_t0_7 q0 p1 p2) (own_t0_18 q0 p1 p2) 9 (0 : Int32) (own_E q0)).getD 2 0) = (own_F3 (2 : Int32) (own_t0_7 q0 p1 p2) (own_t0_18 q0 p1 p2) (own_E q0)))).2 k) ?_
  refine own_st (f' := (mkF m 238 #[.val (.long q0), .second, .val (.int p1), .val (.int p2), .val (.int (own_t0_7 q0 p1 p2)), .val (.int (own_t0_18 q0 p1 p2)), .val (.ref b6), .val (.ref b7)] [(.ref b7)])) (fun t k => XS.aload X35.her hx rfl (hb hby at_236) rfl rfl k) ?_
  refine own_st (f' := (mkF m 239 #[.val (.long q0), .second, .val (.int p1), .val (.int p2), .val (.int (own_t0_7 q0 p1 p2)), .val (.int (own_t0_18 q0 p1 p2)), .val (.ref b6), .val (.ref b7)] [(.int (3 : Int32)), (.ref b7)])) (fun t k => XS.iconst X35.her hx rfl (hb hby at_238) k) ?_
  refine own_bload (v := ((own_out 0 (own_t0_7 q0 p1 p2) (own_t0_18 q0 p1 p2) 9 (0 : Int32) (own_E q0)).getD 3 0)) X35 hx hZ B32 (by decide) (own_gd _ _ (by rw [own_out_len]; show 3 < 8; decide)) (hb hby at_239) ?_
  refine own_st (f' := (mkF m 242 #[.val (.long q0), .second, .val (.int p1), .val (.int p2), .val (.int (own_t0_7 q0 p1 p2)), .val (.int (own_t0_18 q0 p1 p2)), .val (.ref b6), .val (.ref b7)] [(.ref b6), (.int ((own_out 0 (own_t0_7 q0 p1 p2) (own_t0_18 q0 p1 p2) 9 (0 : Int32) (own_E q0)).getD 3 0))])) (fun t k => XS.aload X35.her hx rfl (hb hby at_240) rfl rfl k) ?_
  refine own_st (f' := (mkF m 243 #[.val (.long q0), .second, .val (.int p1), .val (.int p2), .val (.int (own_t0_7 q0 p1 p2)), .val (.int (own_t0_18 q0 p1 p2)), .val (.ref b6), .val (.ref b7)] [(.int (3 : Int32)), (.ref b6), (.int ((own_out 0 (own_t0_7 q0 p1 p2) (own_t0_18 q0 p1 p2) 9 (0 : Int32) (own_E q0)).getD 3 0))])) (fun t k => XS.iconst X35.her hx rfl (hb hby at_242) k) ?_
  refine own_st (f' := (mkF m 245 #[.val (.long q0), .second, .val (.int p1), .val (.int p2), .val (.int (own_t0_7 q0 p1 p2)), .val (.int (own_t0_18 q0 p1 p2)), .val (.ref b6), .val (.ref b7)] [(.int (own_t0_7 q0 p1 p2)), (.int (3 : Int32)), (.ref b6), (.int ((own_out 0 (own_t0_7 q0 p1 p2) (own_t0_18 q0 p1 p2) 9 (0 : Int32) (own_E q0)).getD 3 0))])) (fun t k => XS.iload X35.her hx rfl (hb hby at_243) rfl k) ?_
  refine own_st (f' := (mkF m 247 #[.val (.long q0), .second, .val (.int p1), .val (.int p2), .val (.int (own_t0_7 q0 p1 p2)), .val (.int (own_t0_18 q0 p1 p2)), .val (.ref b6), .val (.ref b7)] [(.int (own_t0_18 q0 p1 p2)), (.int (own_t0_7 q0 p1 p2)), (.int (3 : Int32)), (.ref b6), (.int ((own_out 0 (own_t0_7 q0 p1 p2) (own_t0_18 q0 p1 p2) 9 (0 : Int32) (own_E q0)).getD 3 0))])) (fun t k => XS.iload X35.her hx rfl (hb hby at_245) rfl k) ?_
  refine own_callSP (y := (⟨"com/example/studyferry/studyferry/dicom/DicomInputSwapPinLaw", "expected", "([BIII)B"⟩ : MethodName)) (W := 1) [(.ref b6), (.int (3 : Int32)), (.int (own_t0_7 q0 p1 p2)), (.int (own_t0_18 q0 p1 p2))] X35 hx hZ hown (own_w10 hw) (own_w11 hw) (own_w4 hw) (own_w12 hw) (by decide) (own_c3 l Z a0 hw h32 n0 Zn32 b6 (3 : Int32) (own_t0_7 q0 p1 p2) (own_t0_18 q0 p1 p2) (own_E q0) B32_b6 (own_EB q0) (own_s0 q0 p1 p2) (by decide) (by show 3 < 8; decide) (own_hix q0 p1 p2 ⟨3, by decide⟩)) (by decide) (by decide) (by decide) (by decide) (by rw [hml]; rfl) own_pd2 rfl rfl (Nat.le_of_eq rfl) (hb hby at_247) ?_
  intro T36 X36
  show own_G p e below _ T36 (mkF m 250 #[.val (.long q0), .second, .val (.int p1), .val (.int p2), .val (.int (own_t0_7 q0 p1 p2)), .val (.int (own_t0_18 q0 p1 p2)), .val (.ref b6), .val (.ref b7)] [(.int (own_F3 (3 : Int32) (own_t0_7 q0 p1 p2) (own_t0_18 q0 p1 p2) (own_E q0))), (.int ((own_out 0 (own_t0_7 q0 p1 p2) (own_t0_18 q0 p1 p2) 9 (0 : Int32) (own_E q0)).getD 3 0))])
  refine own_st (f' := (mkF m 253 #[.val (.long q0), .second, .val (.int p1), .val (.int p2), .val (.int (own_t0_7 q0 p1 p2)), .val (.int (own_t0_18 q0 p1 p2)), .val (.ref b6), .val (.ref b7)] [])) (fun t k => XS.icmpNo X36.her hx rfl (hb hby at_250) rfl (teq (own_fin q0 p1 p2 ⟨3, by decide⟩ : ((own_out 0 (own_t0_7 q0 p1 p2) (own_t0_18 q0 p1 p2) 9 (0 : Int32) (own_E q0)).getD 3 0) = (own_F3 (3 : Int32) (own_t0_7 q0 p1 p2) (own_t0_18 q0 p1 p2) (own_E q0)))).2 k) ?_
  refine own_st (f' := (mkF m 255 #[.val (.long q0), .second, .val (.int p1), .val (.int p2), .val (.int (own_t0_7 q0 p1 p2)), .val (.int (own_t0_18 q0 p1 p2)), .val (.ref b6), .val (.ref b7)] [(.ref b7)])) (fun t k => XS.aload X36.her hx rfl (hb hby at_253) rfl rfl k) ?_
  refine own_st (f' := (mkF m 256 #[.val (.long q0), .second, .val (.int p1), .val (.int p2), .val (.int (own_t0_7 q0 p1 p2)), .val (.int (own_t0_18 q0 p1 p2)), .val (.ref b6), .val (.ref b7)] [(.int (4 : Int32)), (.ref b7)])) (fun t k => XS.iconst X36.her hx rfl (hb hby at_255) k) ?_
  refine own_bload (v := ((own_out 0 (own_t0_7 q0 p1 p2) (own_t0_18 q0 p1 p2) 9 (0 : Int32) (own_E q0)).getD 4 0)) X36 hx hZ B32 (by decide) (own_gd _ _ (by rw [own_out_len]; show 4 < 8; decide)) (hb hby at_256) ?_
  refine own_st (f' := (mkF m 259 #[.val (.long q0), .second, .val (.int p1), .val (.int p2), .val (.int (own_t0_7 q0 p1 p2)), .val (.int (own_t0_18 q0 p1 p2)), .val (.ref b6), .val (.ref b7)] [(.ref b6), (.int ((own_out 0 (own_t0_7 q0 p1 p2) (own_t0_18 q0 p1 p2) 9 (0 : Int32) (own_E q0)).getD 4 0))])) (fun t k => XS.aload X36.her hx rfl (hb hby at_257) rfl rfl k) ?_
  refine own_st (f' := (mkF m 260 #[.val (.long q0), .second, .val (.int p1), .val (.int p2), .val (.int (own_t0_7 q0 p1 p2)), .val (.int (own_t0_18 q0 p1 p2)), .val (.ref b6), .val (.ref b7)] [(.int (4 : Int32)), (.ref b6), (.int ((own_out 0 (own_t0_7 q0 p1 p2) (own_t0_18 q0 p1 p2) 9 (0 : Int32) (own_E q0)).getD 4 0))])) (fun t k => XS.iconst X36.her hx rfl (hb hby at_259) k) ?_
  refine own_st (f' := (mkF m 262 #[.val (.long q0), .second, .val (.int p1), .val (.int p2), .val (.int (own_t0_7 q0 p1 p2)), .val (.int (own_t0_18 q0 p1 p2)), .val (.ref b6), .val (.ref b7)] [(.int (own_t0_7 q0 p1 p2)), (.int (4 : Int32)), (.ref b6), (.int ((own_out 0 (own_t0_7 q0 p1 p2) (own_t0_18 q0 p1 p2) 9 (0 : Int32) (own_E q0)).getD 4 0))])) (fun t k => XS.iload X36.her hx rfl (hb hby at_260) rfl k) ?_
  refine own_st (f' := (mkF m 264 #[.val (.long q0), .second, .val (.int p1), .val (.int p2), .val (.int (own_t0_7 q0 p1 p2)), .val (.int (own_t0_18 q0 p1 p2)), .val (.ref b6), .val (.ref b7)] [(.int (own_t0_18 q0 p1 p2)), (.int (own_t0_7 q0 p1 p2)), (.int (4 : Int32)), (.ref b6), (.int ((own_out 0 (own_t0_7 q0 p1 p2) (own_t0_18 q0 p1 p2) 9 (0 : Int32) (own_E q0)).getD 4 0))])) (fun t k => XS.iload X36.her hx rfl (hb hby at_262) rfl k) ?_
  refine own_callSP (y := (⟨"com/example/studyferry/studyferry/dicom/DicomInputSwapPinLaw", "expected", "([BIII)B"⟩ : MethodName)) (W := 1) [(.ref b6), (.int (4 : Int32)), (.int (own_t0_7 q0 p1 p2)), (.int (own_t0_18 q0 p1 p2))] X36 hx hZ hown (own_w10 hw) (own_w11 hw) (own_w4 hw) (own_w12 hw) (by decide) (own_c3 l Z a0 hw h32 n0 Zn32 b6 (4 : Int32) (own_t0_7 q0 p1 p2) (own_t0_18 q0 p1 p2) (own_E q0) B32_b6 (own_EB q0) (own_s0 q0 p1 p2) (by decide) (by show 4 < 8; decide) (own_hix q0 p1 p2 ⟨4, by decide⟩)) (by decide) (by decide) (by decide) (by decide) (by rw [hml]; rfl) own_pd2 rfl rfl (Nat.le_of_eq rfl) (hb hby at_264) ?_
  intro T37 X37
  show own_G p e below _ T37 (mkF m 267 #[.val (.long q0), .second, .val (.int p1), .val (.int p2), .val (.int (own_t0_7 q0 p1 p2)), .val (.int (own_t0_18 q0 p1 p2)), .val (.ref b6), .val (.ref b7)] [(.int (own_F3 (4 : Int32) (own_t0_7 q0 p1 p2) (own_t0_18 q0 p1 p2) (own_E q0))), (.int ((own_out 0 (own_t0_7 q0 p1 p2) (own_t0_18 q0 p1 p2) 9 (0 : Int32) (own_E q0)).getD 4 0))])
  refine own_st (f' := (mkF m 270 #[.val (.long q0), .second, .val (.int p1), .val (.int p2), .val (.int (own_t0_7 q0 p1 p2)), .val (.int (own_t0_18 q0 p1 p2)), .val (.ref b6), .val (.ref b7)] [])) (fun t k => XS.icmpNo X37.her hx rfl (hb hby at_267) rfl (teq (own_fin q0 p1 p2 ⟨4, by decide⟩ : ((own_out 0 (own_t0_7 q0 p1 p2) (own_t0_18 q0 p1 p2) 9 (0 : Int32) (own_E q0)).getD 4 0) = (own_F3 (4 : Int32) (own_t0_7 q0 p1 p2) (own_t0_18 q0 p1 p2) (own_E q0)))).2 k) ?_
  refine own_st (f' := (mkF m 272 #[.val (.long q0), .second, .val (.int p1), .val (.int p2), .val (.int (own_t0_7 q0 p1 p2)), .val (.int (own_t0_18 q0 p1 p2)), .val (.ref b6), .val (.ref b7)] [(.ref b7)])) (fun t k => XS.aload X37.her hx rfl (hb hby at_270) rfl rfl k) ?_
  refine own_st (f' := (mkF m 273 #[.val (.long q0), .second, .val (.int p1), .val (.int p2), .val (.int (own_t0_7 q0 p1 p2)), .val (.int (own_t0_18 q0 p1 p2)), .val (.ref b6), .val (.ref b7)] [(.int (5 : Int32)), (.ref b7)])) (fun t k => XS.iconst X37.her hx rfl (hb hby at_272) k) ?_
  refine own_bload (v := ((own_out 0 (own_t0_7 q0 p1 p2) (own_t0_18 q0 p1 p2) 9 (0 : Int32) (own_E q0)).getD 5 0)) X37 hx hZ B32 (by decide) (own_gd _ _ (by rw [own_out_len]; show 5 < 8; decide)) (hb hby at_273) ?_
  refine own_st (f' := (mkF m 276 #[.val (.long q0), .second, .val (.int p1), .val (.int p2), .val (.int (own_t0_7 q0 p1 p2)), .val (.int (own_t0_18 q0 p1 p2)), .val (.ref b6), .val (.ref b7)] [(.ref b6), (.int ((own_out 0 (own_t0_7 q0 p1 p2) (own_t0_18 q0 p1 p2) 9 (0 : Int32) (own_E q0)).getD 5 0))])) (fun t k => XS.aload X37.her hx rfl (hb hby at_274) rfl rfl k) ?_
  refine own_st (f' := (mkF m 277 #[.val (.long q0), .second, .val (.int p1), .val (.int p2), .val (.int (own_t0_7 q0 p1 p2)), .val (.int (own_t0_18 q0 p1 p2)), .val (.ref b6), .val (.ref b7)] [(.int (5 : Int32)), (.ref b6), (.int ((own_out 0 (own_t0_7 q0 p1 p2) (own_t0_18 q0 p1 p2) 9 (0 : Int32) (own_E q0)).getD 5 0))])) (fun t k => XS.iconst X37.her hx rfl (hb hby at_276) k) ?_
  refine own_st (f' := (mkF m 279 #[.val (.long q0), .second, .val (.int p1), .val (.int p2), .val (.int (own_t0_7 q0 p1 p2)), .val (.int (own_t0_18 q0 p1 p2)), .val (.ref b6), .val (.ref b7)] [(.int (own_t0_7 q0 p1 p2)), (.int (5 : Int32)), (.ref b6), (.int ((own_out 0 (own_t0_7 q0 p1 p2) (own_t0_18 q0 p1 p2) 9 (0 : Int32) (own_E q0)).getD 5 0))])) (fun t k => XS.iload X37.her hx rfl (hb hby at_277) rfl k) ?_
  refine own_st (f' := (mkF m 281 #[.val (.long q0), .second, .val (.int p1), .val (.int p2), .val (.int (own_t0_7 q0 p1 p2)), .val (.int (own_t0_18 q0 p1 p2)), .val (.ref b6), .val (.ref b7)] [(.int (own_t0_18 q0 p1 p2)), (.int (own_t0_7 q0 p1 p2)), (.int (5 : Int32)), (.ref b6), (.int ((own_out 0 (own_t0_7 q0 p1 p2) (own_t0_18 q0 p1 p2) 9 (0 : Int32) (own_E q0)).getD 5 0))])) (fun t k => XS.iload X37.her hx rfl (hb hby at_279) rfl k) ?_
  refine own_callSP (y := (⟨"com/example/studyferry/studyferry/dicom/DicomInputSwapPinLaw", "expected", "([BIII)B"⟩ : MethodName)) (W := 1) [(.ref b6), (.int (5 : Int32)), (.int (own_t0_7 q0 p1 p2)), (.int (own_t0_18 q0 p1 p2))] X37 hx hZ hown (own_w10 hw) (own_w11 hw) (own_w4 hw) (own_w12 hw) (by decide) (own_c3 l Z a0 hw h32 n0 Zn32 b6 (5 : Int32) (own_t0_7 q0 p1 p2) (own_t0_18 q0 p1 p2) (own_E q0) B32_b6 (own_EB q0) (own_s0 q0 p1 p2) (by decide) (by show 5 < 8; decide) (own_hix q0 p1 p2 ⟨5, by decide⟩)) (by decide) (by decide) (by decide) (by decide) (by rw [hml]; rfl) own_pd2 rfl rfl (Nat.le_of_eq rfl) (hb hby at_281) ?_
  intro T38 X38
  show own_G p e below _ T38 (mkF m 284 #[.val (.long q0), .second, .val (.int p1), .val (.int p2), .val (.int (own_t0_7 q0 p1 p2)), .val (.int (own_t0_18 q0 p1 p2)), .val (.ref b6), .val (.ref b7)] [(.int (own_F3 (5 : Int32) (own_t0_7 q0 p1 p2) (own_t0_18 q0 p1 p2) (own_E q0))), (.int ((own_out 0 (own_t0_7 q0 p1 p2) (own_t0_18 q0 p1 p2) 9 (0 : Int32) (own_E q0)).getD 5 0))])
  refine own_st (f' := (mkF m 287 #[.val (.long q0), .second, .val (.int p1), .val (.int p2), .val (.int (own_t0_7 q0 p1 p2)), .val (.int (own_t0_18 q0 p1 p2)), .val (.ref b6), .val (.ref b7)] [])) (fun t k => XS.icmpNo X38.her hx rfl (hb hby at_284) rfl (teq (own_fin q0 p1 p2 ⟨5, by decide⟩ : ((own_out 0 (own_t0_7 q0 p1 p2) (own_t0_18 q0 p1 p2) 9 (0 : Int32) (own_E q0)).getD 5 0) = (own_F3 (5 : Int32) (own_t0_7 q0 p1 p2) (own_t0_18 q0 p1 p2) (own_E q0)))).2 k) ?_
  refine own_st (f' := (mkF m 289 #[.val (.long q0), .second, .val (.int p1), .val (.int p2), .val (.int (own_t0_7 q0 p1 p2)), .val (.int (own_t0_18 q0 p1 p2)), .val (.ref b6), .val (.ref b7)] [(.ref b7)])) (fun t k => XS.aload X38.her hx rfl (hb hby at_287) rfl rfl k) ?_
  refine own_st (f' := (mkF m 291 #[.val (.long q0), .second, .val (.int p1), .val (.int p2), .val (.int (own_t0_7 q0 p1 p2)), .val (.int (own_t0_18 q0 p1 p2)), .val (.ref b6), .val (.ref b7)] [(.int (6 : Int32)), (.ref b7)])) (fun t k => XS.bipush X38.her hx rfl (hb hby at_289) k) ?_
  refine own_bload (v := ((own_out 0 (own_t0_7 q0 p1 p2) (own_t0_18 q0 p1 p2) 9 (0 : Int32) (own_E q0)).getD 6 0)) X38 hx hZ B32 (by decide) (own_gd _ _ (by rw [own_out_len]; show 6 < 8; decide)) (hb hby at_291) ?_
  refine own_st (f' := (mkF m 294 #[.val (.long q0), .second, .val (.int p1), .val (.int p2), .val (.int (own_t0_7 q0 p1 p2)), .val (.int (own_t0_18 q0 p1 p2)), .val (.ref b6), .val (.ref b7)] [(.ref b6), (.int ((own_out 0 (own_t0_7 q0 p1 p2) (own_t0_18 q0 p1 p2) 9 (0 : Int32) (own_E q0)).getD 6 0))])) (fun t k => XS.aload X38.her hx rfl (hb hby at_292) rfl rfl k) ?_
  refine own_st (f' := (mkF m 296 #[.val (.long q0), .second, .val (.int p1), .val (.int p2), .val (.int (own_t0_7 q0 p1 p2)), .val (.int (own_t0_18 q0 p1 p2)), .val (.ref b6), .val (.ref b7)] [(.int (6 : Int32)), (.ref b6), (.int ((own_out 0 (own_t0_7 q0 p1 p2) (own_t0_18 q0 p1 p2) 9 (0 : Int32) (own_E q0)).getD 6 0))])) (fun t k => XS.bipush X38.her hx rfl (hb hby at_294) k) ?_
  refine own_st (f' := (mkF m 298 #[.val (.long q0), .second, .val (.int p1), .val (.int p2), .val (.int (own_t0_7 q0 p1 p2)), .val (.int (own_t0_18 q0 p1 p2)), .val (.ref b6), .val (.ref b7)] [(.int (own_t0_7 q0 p1 p2)), (.int (6 : Int32)), (.ref b6), (.int ((own_out 0 (own_t0_7 q0 p1 p2) (own_t0_18 q0 p1 p2) 9 (0 : Int32) (own_E q0)).getD 6 0))])) (fun t k => XS.iload X38.her hx rfl (hb hby at_296) rfl k) ?_
  refine own_st (f' := (mkF m 300 #[.val (.long q0), .second, .val (.int p1), .val (.int p2), .val (.int (own_t0_7 q0 p1 p2)), .val (.int (own_t0_18 q0 p1 p2)), .val (.ref b6), .val (.ref b7)] [(.int (own_t0_18 q0 p1 p2)), (.int (own_t0_7 q0 p1 p2)), (.int (6 : Int32)), (.ref b6), (.int ((own_out 0 (own_t0_7 q0 p1 p2) (own_t0_18 q0 p1 p2) 9 (0 : Int32) (own_E q0)).getD 6 0))])) (fun t k => XS.iload X38.her hx rfl (hb hby at_298) rfl k) ?_
  refine own_callSP (y := (⟨"com/example/studyferry/studyferry/dicom/DicomInputSwapPinLaw", "expected", "([BIII)B"⟩ : MethodName)) (W := 1) [(.ref b6), (.int (6 : Int32)), (.int (own_t0_7 q0 p1 p2)), (.int (own_t0_18 q0 p1 p2))] X38 hx hZ hown (own_w10 hw) (own_w11 hw) (own_w4 hw) (own_w12 hw) (by decide) (own_c3 l Z a0 hw h32 n0 Zn32 b6 (6 : Int32) (own_t0_7 q0 p1 p2) (own_t0_18 q0 p1 p2) (own_E q0) B32_b6 (own_EB q0) (own_s0 q0 p1 p2) (by decide) (by show 6 < 8; decide) (own_hix q0 p1 p2 ⟨6, by decide⟩)) (by decide) (by decide) (by decide) (by decide) (by rw [hml]; rfl) own_pd2 rfl rfl (Nat.le_of_eq rfl) (hb hby at_300) ?_
  intro T39 X39
  show own_G p e below _ T39 (mkF m 303 #[.val (.long q0), .second, .val (.int p1), .val (.int p2), .val (.int (own_t0_7 q0 p1 p2)), .val (.int (own_t0_18 q0 p1 p2)), .val (.ref b6), .val (.ref b7)] [(.int (own_F3 (6 : Int32) (own_t0_7 q0 p1 p2) (own_t0_18 q0 p1 p2) (own_E q0))), (.int ((own_out 0 (own_t0_7 q0 p1 p2) (own_t0_18 q0 p1 p2) 9 (0 : Int32) (own_E q0)).getD 6 0))])
  refine own_st (f' := (mkF m 306 #[.val (.long q0), .second, .val (.int p1), .val (.int p2), .val (.int (own_t0_7 q0 p1 p2)), .val (.int (own_t0_18 q0 p1 p2)), .val (.ref b6), .val (.ref b7)] [])) (fun t k => XS.icmpNo X39.her hx rfl (hb hby at_303) rfl (teq (own_fin q0 p1 p2 ⟨6, by decide⟩ : ((own_out 0 (own_t0_7 q0 p1 p2) (own_t0_18 q0 p1 p2) 9 (0 : Int32) (own_E q0)).getD 6 0) = (own_F3 (6 : Int32) (own_t0_7 q0 p1 p2) (own_t0_18 q0 p1 p2) (own_E q0)))).2 k) ?_
  refine own_st (f' := (mkF m 308 #[.val (.long q0), .second, .val (.int p1), .val (.int p2), .val (.int (own_t0_7 q0 p1 p2)), .val (.int (own_t0_18 q0 p1 p2)), .val (.ref b6), .val (.ref b7)] [(.ref b7)])) (fun t k => XS.aload X39.her hx rfl (hb hby at_306) rfl rfl k) ?_
  refine own_st (f' := (mkF m 310 #[.val (.long q0), .second, .val (.int p1), .val (.int p2), .val (.int (own_t0_7 q0 p1 p2)), .val (.int (own_t0_18 q0 p1 p2)), .val (.ref b6), .val (.ref b7)] [(.int (7 : Int32)), (.ref b7)])) (fun t k => XS.bipush X39.her hx rfl (hb hby at_308) k) ?_
  refine own_bload (v := ((own_out 0 (own_t0_7 q0 p1 p2) (own_t0_18 q0 p1 p2) 9 (0 : Int32) (own_E q0)).getD 7 0)) X39 hx hZ B32 (by decide) (own_gd _ _ (by rw [own_out_len]; show 7 < 8; decide)) (hb hby at_310) ?_
  refine own_st (f' := (mkF m 313 #[.val (.long q0), .second, .val (.int p1), .val (.int p2), .val (.int (own_t0_7 q0 p1 p2)), .val (.int (own_t0_18 q0 p1 p2)), .val (.ref b6), .val (.ref b7)] [(.ref b6), (.int ((own_out 0 (own_t0_7 q0 p1 p2) (own_t0_18 q0 p1 p2) 9 (0 : Int32) (own_E q0)).getD 7 0))])) (fun t k => XS.aload X39.her hx rfl (hb hby at_311) rfl rfl k) ?_
  refine own_st (f' := (mkF m 315 #[.val (.long q0), .second, .val (.int p1), .val (.int p2), .val (.int (own_t0_7 q0 p1 p2)), .val (.int (own_t0_18 q0 p1 p2)), .val (.ref b6), .val (.ref b7)] [(.int (7 : Int32)), (.ref b6), (.int ((own_out 0 (own_t0_7 q0 p1 p2) (own_t0_18 q0 p1 p2) 9 (0 : Int32) (own_E q0)).getD 7 0))])) (fun t k => XS.bipush X39.her hx rfl (hb hby at_313) k) ?_
  refine own_st (f' := (mkF m 317 #[.val (.long q0), .second, .val (.int p1), .val (.int p2), .val (.int (own_t0_7 q0 p1 p2)), .val (.int (own_t0_18 q0 p1 p2)), .val (.ref b6), .val (.ref b7)] [(.int (own_t0_7 q0 p1 p2)), (.int (7 : Int32)), (.ref b6), (.int ((own_out 0 (own_t0_7 q0 p1 p2) (own_t0_18 q0 p1 p2) 9 (0 : Int32) (own_E q0)).getD 7 0))])) (fun t k => XS.iload X39.her hx rfl (hb hby at_315) rfl k) ?_
  refine own_st (f' := (mkF m 319 #[.val (.long q0), .second, .val (.int p1), .val (.int p2), .val (.int (own_t0_7 q0 p1 p2)), .val (.int (own_t0_18 q0 p1 p2)), .val (.ref b6), .val (.ref b7)] [(.int (own_t0_18 q0 p1 p2)), (.int (own_t0_7 q0 p1 p2)), (.int (7 : Int32)), (.ref b6), (.int ((own_out 0 (own_t0_7 q0 p1 p2) (own_t0_18 q0 p1 p2) 9 (0 : Int32) (own_E q0)).getD 7 0))])) (fun t k => XS.iload X39.her hx rfl (hb hby at_317) rfl k) ?_
  refine own_callSP (y := (⟨"com/example/studyferry/studyferry/dicom/DicomInputSwapPinLaw", "expected", "([BIII)B"⟩ : MethodName)) (W := 1) [(.ref b6), (.int (7 : Int32)), (.int (own_t0_7 q0 p1 p2)), (.int (own_t0_18 q0 p1 p2))] X39 hx hZ hown (own_w10 hw) (own_w11 hw) (own_w4 hw) (own_w12 hw) (by decide) (own_c3 l Z a0 hw h32 n0 Zn32 b6 (7 : Int32) (own_t0_7 q0 p1 p2) (own_t0_18 q0 p1 p2) (own_E q0) B32_b6 (own_EB q0) (own_s0 q0 p1 p2) (by decide) (by show 7 < 8; decide) (own_hix q0 p1 p2 ⟨7, by decide⟩)) (by decide) (by decide) (by decide) (by decide) (by rw [hml]; rfl) own_pd2 rfl rfl (Nat.le_of_eq rfl) (hb hby at_319) ?_
  intro T40 X40
  show own_G p e below _ T40 (mkF m 322 #[.val (.long q0), .second, .val (.int p1), .val (.int p2), .val (.int (own_t0_7 q0 p1 p2)), .val (.int (own_t0_18 q0 p1 p2)), .val (.ref b6), .val (.ref b7)] [(.int (own_F3 (7 : Int32) (own_t0_7 q0 p1 p2) (own_t0_18 q0 p1 p2) (own_E q0))), (.int ((own_out 0 (own_t0_7 q0 p1 p2) (own_t0_18 q0 p1 p2) 9 (0 : Int32) (own_E q0)).getD 7 0))])
  refine own_st (f' := (mkF m 325 #[.val (.long q0), .second, .val (.int p1), .val (.int p2), .val (.int (own_t0_7 q0 p1 p2)), .val (.int (own_t0_18 q0 p1 p2)), .val (.ref b6), .val (.ref b7)] [])) (fun t k => XS.icmpNo X40.her hx rfl (hb hby at_322) rfl (teq (own_fin q0 p1 p2 ⟨7, by decide⟩ : ((own_out 0 (own_t0_7 q0 p1 p2) (own_t0_18 q0 p1 p2) 9 (0 : Int32) (own_E q0)).getD 7 0) = (own_F3 (7 : Int32) (own_t0_7 q0 p1 p2) (own_t0_18 q0 p1 p2) (own_E q0)))).2 k) ?_
  refine own_st (f' := (mkF m 326 #[.val (.long q0), .second, .val (.int p1), .val (.int p2), .val (.int (own_t0_7 q0 p1 p2)), .val (.int (own_t0_18 q0 p1 p2)), .val (.ref b6), .val (.ref b7)] [(.int (1 : Int32))])) (fun t k => XS.iconst X40.her hx rfl (hb hby at_325) k) ?_
  refine own_st (f' := (mkF m 330 #[.val (.long q0), .second, .val (.int p1), .val (.int p2), .val (.int (own_t0_7 q0 p1 p2)), .val (.int (own_t0_18 q0 p1 p2)), .val (.ref b6), .val (.ref b7)] [(.int (1 : Int32))])) (fun t k => XS.goto X40.her hx rfl (pc0 := 326) (pc' := 330) rfl (hb hby at_326) (by decide) (by decide) k) ?_
  refine own_retN (t := .boolean) X40 hx hret hlk (by simp) (hb hby at_330) (by first | decide | omega) (by first | decide | omega) ?_
  exact congrArg (fun q => some (Value.int q)) (by decide)
set_option maxRecDepth 65536 in
set_option maxHeartbeats 40000000 in
theorem own_comes {Post : Tables → Env → Array Value → State → Outcome → State → Prop} (hpost : ∀ tb e args s v u, (limb_1_1.after args s (.returned v) u = true ∧ limb_1_2.after args s (.returned v) u = true) → FrameEnd s (.returned v) u (Jvm.fieldLocs frame_1_writes args s ++ Jvm.arrayLocs frame_1_arrays args s ++ Jvm.staticLocs frame_1_statics s) 16 128 → Post tb e args s (.returned v) u) :
    ArmFor flags0 classFile x code maxLocals ret World_1 tables_1 room_1 Calls_1 rest_1 Pre_1 Post := by
  intro l hfl _ _ p e ha hc hk s m args below hf hA hF happ hP
  obtain ⟨hcalls, hrest, hpre⟩ := hP
  obtain ⟨-, -, -, hnamed, -, -, -, hat⟩ := (Spec.applies_iff hf).mp happ
  obtain ⟨hg, hn⟩ := and_e (Cond.before_iff.mp (show (Jvm.Cond.and given_1 narrow_1).before args s = true from hpre))
  obtain ⟨g41, g42⟩ := and_e hg
  obtain ⟨g43, g44⟩ := and_e g42
  obtain ⟨g45, g46⟩ := and_e g44
  obtain ⟨w0, w1, w2, rfl⟩ : ∃ w0 w1 w2 : Value, args = #[w0, w1, w2] := by
    have hs : args.size = 3 := by simpa [Cond.value, given_1] using g41
    obtain ⟨L⟩ := args
    match L, hs with
    | [w0, w1, w2], _ => exact ⟨w0, w1, w2, rfl⟩
  have hw := fun d (hd : d ∈ tables_1) => atoms_spec (ws := Jvm.Cond.code x code maxLocals ret :: tables_1) hat d (List.mem_cons_of_mem _ hd)
  obtain ⟨i0, ei0⟩ := isL_v g43
  obtain rfl : w0 = (.long i0) := Option.some.inj ei0
  obtain ⟨i1, ei1⟩ := is_v g45
  obtain rfl : w1 = (.int i1) := Option.some.inj ei1
  obtain ⟨i2, ei2⟩ := is_v g46
  obtain rfl : w2 = (.int i2) := Option.some.inj ei2
  obtain ⟨n, o, h1, h2, h3, v, L, rfl, ⟨N, -, hv⟩, hq⟩ := own_c0 l s _ hw s.heap s.heap.size (Nat.le_refl _) i0 i1 i2 p e ha hc hk s m _ below hf ((Spec.applies_iff_loose hf).mp happ).1 ⟨rfl, State.Warmed39.refl s, rfl⟩ trivial
  obtain rfl : v = some (.int 1) := hv
  refine ⟨n, _, h1, h2, h3, hpost _ _ _ _ _ _ ⟨Cond.after_iff.mpr rfl, Cond.after_iff.mpr (eq_i res_at (Term.int_eval (1)) rfl)⟩ ⟨hq.1, hq.2.1, (hq.2.2.sift fun y hy => Or.inr (N y hy)).mono (by decide) (by decide)⟩⟩
theorem main_1_1 : Claimed_1_1 := own_comes fun _ _ _ _ _ _ h hF => ⟨h.1, hF⟩
theorem main_1_2 : Claimed_1_2 := own_comes fun _ _ _ _ _ _ h hF => ⟨h.2, hF⟩
end Jvm.Pilot.@@N@@
namespace Jvm.Pilot.@@N@@
open Jvm Jvm.ClassFile Sem Op Lib Jvm.Free Jvm.Stand Jvm.Pilot.@@N@@.Jvm.D
/-! MADE BY PROGRAM (witnessworld.py) out of the Statement's table words and the real class files: 11 classes; the members and pool entries that the words name. The judged class is class 1, her method 3. -/
namespace start1
open Jvm.ClassFile
def u (s : String) : CpInfo := .utf8 (stringToUtf16 s)
/-- a pool by its gaps: so many unusable entries, then the entry; so many at the end -/
def gap : Nat → List CpInfo → List CpInfo
  | 0, r => r
  | n + 1, r => .unusable :: gap n r
def poolList (es : List (Nat × CpInfo)) (last : Nat) : List CpInfo := es.foldr (fun e r => gap e.1 (e.2 :: r)) (gap last [])
def pool (es : List (Nat × CpInfo)) (last : Nat) : Array CpInfo := ⟨poolList es last⟩
def fileOf (pool : Array CpInfo) (this : Nat) (attrs : Array Attribute := #[]) (ms : Array MethodInfo := #[]) (fl : Nat := 33) (sup : Nat := 0) (ifs : Array Nat := #[]) (fds : Array FieldInfo := #[]) : ClassFile where
  minorVersion := 0
  majorVersion := 65
  constantPool := pool
  accessFlags := fl
  thisClass := this
  superClass := sup
  interfaces := ifs
  fields := fds
  methods := ms
  attributes := attrs
def plain (name : String) (sup : Option ClassId) : Class where
  name := name
  kind := .ordinary
  loader := none
  accessFlags := 33
  super := sup
  interfaces := #[]
  cf := none
  fields := #[]
  methods := #[]
  instanceTypes := #[]
  staticTypes := #[]
  resolved := #[]
  callSites := []
  init := .initialized
  statics := none
  mirror := none

def pool0 : Array CpInfo := pool [(5, u "<init>"), (0, u "()V"), (1, .class_ 10), (1, u "java/lang/Object")] 113

def k0m0 : Method := { name := "<init>", desc := "()V", sig := { parameters := [], returnType := none }, accessFlags := 1, code := none }
/-- java/lang/Object -/
def k0 : Class := { plain "java/lang/Object" none with
  accessFlags := 33
  interfaces := #[]
  cf := some (fileOf pool0 8 #[] #[{ accessFlags := 1, nameIndex := 5, descriptorIndex := 6, attributes := #[] }] 33 0 #[] #[])
  fields := #[]
  methods := #[k0m0]
  instanceTypes := #[]
  staticTypes := #[]
  resolved := Array.replicate 124 none
  statics := none }

def pool1 : Array CpInfo := pool [(2, .class_ 4), (1, u "java/lang/Object"), (0, u "<init>"), (0, u "()V"), (0, .integer 2147483647), (0, .methodref 9 10), (0, .class_ 11), (0, .nameAndType 12 13), (0, u "com/example/studyferry/studyferry/dicom/DicomInputSwapPinLaw"), (0, u "at"), (0, u "(JI)B"), (0, .methodref 15 16), (0, .class_ 17), (0, .nameAndType 18 19), (0, u "com/example/studyferry/studyferry/dicom/DicomInput"), (0, u "swap"), (0, u "([BII)V"), (0, .methodref 9 21), (0, .nameAndType 22 23), (0, u "expected"), (0, u "([BIII)B"), (3, u "law"), (0, u "(JII)Z")] 4

def k1m0 : Method := { name := "<init>", desc := "()V", sig := { parameters := [], returnType := none }, accessFlags := 2, code := none }
def k1c1 : Code := { maxStack := 4, maxLocals := 3, code := method_2_code, exceptionTable := #[], attributes := #[] }
def k1m1 : Method := { name := "at", desc := "(JI)B", sig := { parameters := [.long, .int], returnType := some .byte }, accessFlags := 10, code := some k1c1 }
def k1c2 : Code := { maxStack := 4, maxLocals := 6, code := method_3_code, exceptionTable := #[], attributes := #[] }
def k1m2 : Method := { name := "expected", desc := "([BIII)B", sig := { parameters := [(.array .byte), .int, .int, .int], returnType := some .byte }, accessFlags := 10, code := some k1c2 }
def k1c3 : Code := { maxStack := 5, maxLocals := 8, code := code, exceptionTable := #[], attributes := #[] }
def k1m3 : Method := { name := "law", desc := "(JII)Z", sig := { parameters := [.long, .int, .int], returnType := some .boolean }, accessFlags := 9, code := some k1c3 }
/-- com/example/studyferry/studyferry/dicom/DicomInputSwapPinLaw -/
def k1 : Class := { plain "com/example/studyferry/studyferry/dicom/DicomInputSwapPinLaw" (some 0) with
  accessFlags := 49
  interfaces := #[]
  cf := some (fileOf pool1 9 #[] #[{ accessFlags := 2, nameIndex := 5, descriptorIndex := 6, attributes := #[] }, { accessFlags := 10, nameIndex := 12, descriptorIndex := 13, attributes := #[] }, { accessFlags := 10, nameIndex := 22, descriptorIndex := 23, attributes := #[] }, { accessFlags := 9, nameIndex := 27, descriptorIndex := 28, attributes := #[] }] 49 2 #[] #[])
  fields := #[]
  methods := #[k1m0, k1m1, k1m2, k1m3]
  instanceTypes := #[]
  staticTypes := #[]
  resolved := Array.replicate 33 none
  statics := none }

def pool2 : Array CpInfo := pool [(1, .class_ 2), (0, u "java/lang/AutoCloseable"), (0, .class_ 4), (0, u "java/lang/Object")] 7

/-- java/lang/AutoCloseable -/
def k2 : Class := { plain "java/lang/AutoCloseable" (some 0) with
  accessFlags := 1537
  interfaces := #[]
  cf := some (fileOf pool2 1 #[] #[] 1537 3 #[] #[])
  fields := #[]
  methods := #[]
  instanceTypes := #[]
  staticTypes := #[]
  resolved := Array.replicate 12 none
  statics := none }

def pool3 : Array CpInfo := pool [(1, .class_ 2), (0, u "java/io/Closeable"), (0, .class_ 4), (0, u "java/lang/Object"), (0, .class_ 6), (0, u "java/lang/AutoCloseable")] 7

/-- java/io/Closeable -/
def k3 : Class := { plain "java/io/Closeable" (some 0) with
  accessFlags := 1537
  interfaces := #[2]
  cf := some (fileOf pool3 1 #[] #[] 1537 3 #[5] #[])
  fields := #[]
  methods := #[]
  instanceTypes := #[]
  staticTypes := #[]
  resolved := Array.replicate 14 none
  statics := none }

def pool4 : Array CpInfo := pool [(4, .class_ 6), (1, u "java/lang/Object"), (3, .class_ 12), (1, u "com/example/studyferry/studyferry/dicom/DicomInput"), (0, u "scratch"), (0, u "[B"), (2, u "header"), (4, u "headerPosition"), (0, u "J"), (5, u "outside"), (0, u "Ljava/util/Deque;"), (7, u "in"), (0, u "Ljava/io/InputStream;"), (9, u "position"), (37, u "PREFIX"), (72, u "mediaStorageSopClassUid"), (0, u "Ljava/lang/String;"), (12, u "mediaStorageSopInstanceUid"), (126, u "headerLength"), (0, u "I"), (2, u "copy"), (0, u "Ljava/io/OutputStream;"), (5, u "([BII)V"), (135, .class_ 450), (1, u "com/example/studyferry/studyferry/dicom/DicomInput$ElementReader"), (42, u "swap"), (31, .class_ 526), (0, u "java/io/Closeable"), (0, u "PREAMBLE_LENGTH"), (2, u "FILE_META_GROUP"), (1, u "HEADER"), (0, u "MAX_VALUE_LENGTH"), (0, u "MAX_SHORT_VALUE_LENGTH"), (1, u "MAX_HEADER_LENGTH")] 104

def k4c0 : Code := { maxStack := 4, maxLocals := 7, code := prog_20_method_44_code, exceptionTable := #[], attributes := #[] }
def k4m0 : Method := { name := "swap", desc := "([BII)V", sig := { parameters := [(.array .byte), .int, .int], returnType := none }, accessFlags := 8, code := some k4c0 }
/-- com/example/studyferry/studyferry/dicom/DicomInput -/
def k4 : Class := { plain "com/example/studyferry/studyferry/dicom/DicomInput" (some 0) with
  accessFlags := 49
  interfaces := #[3]
  cf := some (fileOf pool4 10 #[.nestMembers #[448]] #[{ accessFlags := 8, nameIndex := 493, descriptorIndex := 312, attributes := #[] }] 49 4 #[525] #[{ accessFlags := 26, nameIndex := 527, descriptorIndex := 302, attributes := #[] }, { accessFlags := 26, nameIndex := 87, descriptorIndex := 14, attributes := #[] }, { accessFlags := 26, nameIndex := 530, descriptorIndex := 302, attributes := #[] }, { accessFlags := 26, nameIndex := 532, descriptorIndex := 161, attributes := #[] }, { accessFlags := 26, nameIndex := 533, descriptorIndex := 23, attributes := #[] }, { accessFlags := 25, nameIndex := 534, descriptorIndex := 302, attributes := #[] }, { accessFlags := 26, nameIndex := 536, descriptorIndex := 302, attributes := #[] }, { accessFlags := 18, nameIndex := 38, descriptorIndex := 39, attributes := #[] }, { accessFlags := 18, nameIndex := 13, descriptorIndex := 14, attributes := #[] }, { accessFlags := 18, nameIndex := 17, descriptorIndex := 14, attributes := #[] }, { accessFlags := 2, nameIndex := 301, descriptorIndex := 302, attributes := #[] }, { accessFlags := 2, nameIndex := 22, descriptorIndex := 23, attributes := #[] }, { accessFlags := 2, nameIndex := 160, descriptorIndex := 161, attributes := #[] }, { accessFlags := 2, nameIndex := 174, descriptorIndex := 161, attributes := #[] }, { accessFlags := 2, nameIndex := 49, descriptorIndex := 23, attributes := #[] }, { accessFlags := 18, nameIndex := 29, descriptorIndex := 30, attributes := #[] }, { accessFlags := 2, nameIndex := 305, descriptorIndex := 306, attributes := #[] }])
  fields := #[{ name := "PREAMBLE_LENGTH", type := .int, accessFlags := 26, slot := 0, constantValue := 0 }, { name := "PREFIX", type := (.array .byte), accessFlags := 26, slot := 1, constantValue := 0 }, { name := "FILE_META_GROUP", type := .int, accessFlags := 26, slot := 2, constantValue := 0 }, { name := "HEADER", type := (.object "java/lang/String"), accessFlags := 26, slot := 3, constantValue := 0 }, { name := "MAX_VALUE_LENGTH", type := .long, accessFlags := 26, slot := 4, constantValue := 0 }, { name := "MAX_SHORT_VALUE_LENGTH", type := .int, accessFlags := 25, slot := 5, constantValue := 0 }, { name := "MAX_HEADER_LENGTH", type := .int, accessFlags := 26, slot := 6, constantValue := 0 }, { name := "in", type := (.object "java/io/InputStream"), accessFlags := 18, slot := 0, constantValue := 0 }, { name := "scratch", type := (.array .byte), accessFlags := 18, slot := 1, constantValue := 0 }, { name := "header", type := (.array .byte), accessFlags := 18, slot := 2, constantValue := 0 }, { name := "headerLength", type := .int, accessFlags := 2, slot := 3, constantValue := 0 }, { name := "headerPosition", type := .long, accessFlags := 2, slot := 4, constantValue := 0 }, { name := "mediaStorageSopClassUid", type := (.object "java/lang/String"), accessFlags := 2, slot := 5, constantValue := 0 }, { name := "mediaStorageSopInstanceUid", type := (.object "java/lang/String"), accessFlags := 2, slot := 6, constantValue := 0 }, { name := "position", type := .long, accessFlags := 2, slot := 7, constantValue := 0 }, { name := "outside", type := (.object "java/util/Deque"), accessFlags := 18, slot := 8, constantValue := 0 }, { name := "copy", type := (.object "java/io/OutputStream"), accessFlags := 2, slot := 9, constantValue := 0 }]
  methods := #[k4m0]
  instanceTypes := #[(.object "java/io/InputStream"), (.array .byte), (.array .byte), .int, .long, (.object "java/lang/String"), (.object "java/lang/String"), .long, (.object "java/util/Deque"), (.object "java/io/OutputStream")]
  staticTypes := #[.int, (.array .byte), .int, (.object "java/lang/String"), .long, .int, .int]
  resolved := Array.replicate 641 none
  statics := none }

def pool5 : Array CpInfo := pool [(1, u "java/lang/Cloneable"), (0, .class_ 1), (0, u "java/lang/Object"), (0, .class_ 3)] 3

/-- java/lang/Cloneable -/
def k5 : Class := { plain "java/lang/Cloneable" (some 0) with
  accessFlags := 1537
  interfaces := #[]
  cf := some (fileOf pool5 2 #[] #[] 1537 4 #[] #[])
  fields := #[]
  methods := #[]
  instanceTypes := #[]
  staticTypes := #[]
  resolved := Array.replicate 8 none
  statics := none }

def pool6 : Array CpInfo := pool [(1, u "java/io/Serializable"), (0, .class_ 1), (0, u "java/lang/Object"), (0, .class_ 3)] 3

/-- java/io/Serializable -/
def k6 : Class := { plain "java/io/Serializable" (some 0) with
  accessFlags := 1537
  interfaces := #[]
  cf := some (fileOf pool6 2 #[] #[] 1537 4 #[] #[])
  fields := #[]
  methods := #[]
  instanceTypes := #[]
  staticTypes := #[]
  resolved := Array.replicate 8 none
  statics := none }

/-- the primitive byte -/
def k7 : Class := { plain "byte" none with kind := .primitive 'B', accessFlags := 0x411 }
/-- [B -/
def k8 : Class := { plain "[B" (some 0) with kind := .array 7 .byte, interfaces := #[5, 6], accessFlags := 1041 }

/-- the primitive int -/
def k9 : Class := { plain "int" none with kind := .primitive 'I', accessFlags := 0x411 }
/-- [I -/
def k10 : Class := { plain "[I" (some 0) with kind := .array 9 .int, interfaces := #[5, 6], accessFlags := 1041 }

def heap : Heap := #[]
def classes : Array Class := #[k0, k1, k2, k3, k4, k5, k6, k7, k8, k9, k10]
def interned : List (Array UInt16 × Addr) := []
def slotsUsed : Nat := 0
def theMethod : MethodId := ⟨1, 3⟩
def args0 : Array Value := #[.long 7, .int 3, .int 5]
def aboutOver (below : List Frame) : State where
  vm := { classes := classes, interned := interned.toArray }
  heap := heap
  slotsUsed := slotsUsed
  threads := #[{ frames := .invoking theMethod args0 :: below }]
def below0 : List Frame := [.native { method := ⟨0, 0⟩, args := #[] }]
def about1 : State := aboutOver below0
def p0 : Program := .bare "" "" ""
def e0 : Env := launch0.env 0 0 0
theorem w_frames : about1.frames = Frame.invoking theMethod args0 :: below0 := rfl
set_option maxRecDepth 65536 in
theorem w_args : argsFit about1.vm theMethod args0 = true := by decide +kernel
set_option maxRecDepth 65536 in
theorem w_heap : heapFits about1 = true := by decide +kernel
set_option maxRecDepth 65536 in
theorem w_runnable : about1.curStatus? = some .runnable := by decide +kernel
set_option maxRecDepth 65536 in
theorem w_alone : about1.alone = true := by decide +kernel
set_option maxRecDepth 65536 in
theorem w_named : about1.methodNamed? x = some theMethod := by decide +kernel
set_option maxRecDepth 65536 in
theorem w_hears : about1.hears theMethod below0 = true := by decide +kernel
set_option maxRecDepth 65536 in
theorem w_ripe : about1.ripe theMethod args0 below0 = true := by decide +kernel
theorem w_running : about1.status = .running := rfl
set_option maxRecDepth 65536 in
theorem w_room : about1.hasRoom e0.platform room_1 = true :=
  launch0.hasRoom_least _ room_1 (by decide +kernel) (by decide +kernel) (by decide +kernel) (by decide +kernel) (by decide +kernel) (by decide +kernel)
theorem allAtoms_all (ts : List Jvm.Cond) (a : Array Jvm.Value) (st : Jvm.State) : (allAtoms ts).before a st = ts.all (fun c => c.before a st) := by
  induction ts with
  | nil => rfl
  | cons c t ih =>
    show (Jvm.Cond.and c (allAtoms t)).before a st = _
    rw [Jvm.Cond.before_and, ih, List.all_cons]
def words1 : List Jvm.Cond := Jvm.Cond.code x code maxLocals ret :: tables_1
/-- a 'code' word, met by the world's own term for the bytes: nothing is compared byte by byte -/
theorem code_word {y : MethodName} {bytes : ByteArray} {mx : Nat} {rt : Option FieldType} {a : Array Value} {s : State} {m : MethodId} {meth : Method} {c : Code} (h1 : s.methodNamed? y = some m) (h2 : s.vm.method? m = some meth) (h3 : meth.code = some c) (h4 : c.code = bytes)
    (h5 : (c.maxLocals == mx && c.exceptionTable.isEmpty && decide (c.maxStack ≤ mostOperands) && decide (meth.sig.returnType = rt) && !meth.locks && decide (parseMethodDescriptor y.desc = some meth.sig)) = true) : (Jvm.Cond.code y bytes mx rt).before a s = true := by
  simp only [Bool.and_eq_true, beq_iff_eq, Bool.not_eq_true', decide_eq_true_eq] at h5
  obtain ⟨⟨⟨⟨⟨g1, g2⟩, g3⟩, g4⟩, g5⟩, g6⟩ := h5
  simp [Cond.before, Cond.holds, Cond.value, h1, h2, h3, h4, g1, g2, g3, g4, g5, g6]
def isCode : Jvm.Cond → Bool
  | .code _ _ _ _ => true
  | _ => false
theorem all_split {L : List Jvm.Cond} {P : Jvm.Cond → Bool} (h1 : L.all (fun c => isCode c || P c) = true) (h2 : ∀ c ∈ L.filter isCode, P c = true) : L.all P = true := by
  refine List.all_eq_true.mpr fun c hc => ?_
  have h := List.all_eq_true.mp h1 c hc
  rcases Bool.eq_false_or_eq_true (isCode c) with hi | hi
  · exact h2 c (List.mem_filter.mpr ⟨hc, hi⟩)
  · simpa [hi] using h
set_option maxRecDepth 65536 in
theorem w_c0 : (Jvm.Cond.code x code maxLocals ret).before args0 about1 = true := code_word (m := ⟨1, 3⟩) (meth := k1m3) (c := k1c3) (by decide +kernel) rfl rfl rfl (by decide +kernel)
set_option maxRecDepth 65536 in
theorem w_c1 : (Jvm.Cond.code ({ cls := "com/example/studyferry/studyferry/dicom/DicomInputSwapPinLaw", name := "at", desc := "(JI)B" } : Jvm.MethodName) method_2_code (3 : Nat) (Option.some Jvm.ClassFile.FieldType.byte)).before args0 about1 = true := code_word (m := ⟨1, 1⟩) (meth := k1m1) (c := k1c1) (by decide +kernel) rfl rfl rfl (by decide +kernel)
set_option maxRecDepth 65536 in
theorem w_c2 : (Jvm.Cond.code ({ cls := "com/example/studyferry/studyferry/dicom/DicomInput", name := "swap", desc := "([BII)V" } : Jvm.MethodName) prog_20_method_44_code (7 : Nat) (Option.none : Option Jvm.ClassFile.FieldType)).before args0 about1 = true := code_word (m := ⟨4, 0⟩) (meth := k4m0) (c := k4c0) (by decide +kernel) rfl rfl rfl (by decide +kernel)
set_option maxRecDepth 65536 in
theorem w_c3 : (Jvm.Cond.code ({ cls := "com/example/studyferry/studyferry/dicom/DicomInputSwapPinLaw", name := "expected", desc := "([BIII)B" } : Jvm.MethodName) method_3_code (6 : Nat) (Option.some Jvm.ClassFile.FieldType.byte)).before args0 about1 = true := code_word (m := ⟨1, 2⟩) (meth := k1m2) (c := k1c2) (by decide +kernel) rfl rfl rfl (by decide +kernel)
def codes1 : List Jvm.Cond := [Jvm.Cond.code x code maxLocals ret, Jvm.Cond.code ({ cls := "com/example/studyferry/studyferry/dicom/DicomInputSwapPinLaw", name := "at", desc := "(JI)B" } : Jvm.MethodName) method_2_code (3 : Nat) (Option.some Jvm.ClassFile.FieldType.byte), Jvm.Cond.code ({ cls := "com/example/studyferry/studyferry/dicom/DicomInput", name := "swap", desc := "([BII)V" } : Jvm.MethodName) prog_20_method_44_code (7 : Nat) (Option.none : Option Jvm.ClassFile.FieldType), Jvm.Cond.code ({ cls := "com/example/studyferry/studyferry/dicom/DicomInputSwapPinLaw", name := "expected", desc := "([BIII)B" } : Jvm.MethodName) method_3_code (6 : Nat) (Option.some Jvm.ClassFile.FieldType.byte)]
set_option maxRecDepth 65536 in
theorem codes_eq : words1.filter isCode = codes1 := rfl
theorem w_codes : ∀ c ∈ words1.filter isCode, c.before args0 about1 = true := by
  rw [codes_eq]
  intro c hc
  simp only [codes1, List.mem_cons, List.not_mem_nil, or_false] at hc
  rcases hc with rfl | rfl | rfl | rfl
  · exact w_c0
  · exact w_c1
  · exact w_c2
  · exact w_c3
set_option maxRecDepth 65536 in
theorem w_t1 : words1.all (fun c => isCode c || c.before args0 about1) = true := by decide +kernel
theorem w_tables : (allAtoms (Jvm.Cond.code x code maxLocals ret :: tables_1)).before args0 about1 = true := by
  rw [allAtoms_all]
  show words1.all (fun c => c.before args0 about1) = true
  refine all_split ?_ w_codes
  rw [w_t1]
set_option maxRecDepth 65536 in
theorem w_case : (Jvm.Cond.and given_1 narrow_1).before args0 about1 = true := by decide +kernel
theorem w_applies : (headSpec (Jvm.Cond.code x code maxLocals ret :: tables_1) room_1).applies x e0.platform about1 = true :=
  (Spec.applies_iff w_frames).mpr ⟨w_running, w_runnable, w_alone, w_named, w_hears, w_ripe, w_room, w_tables⟩
theorem atStart : AtStart classFile x code maxLocals ret World_1 tables_1 room_1 Calls_1 rest_1 Pre_1 launch0 p0 e0 about1 theMethod args0 below0 :=
  ⟨lists_1, trivial, launch0.admits_env _ _ _, launch0.least_env, fairChoices_fair.cas, fairChoices_fair.clock, w_frames, w_args, w_heap, w_applies, trivial, trivial, w_case⟩
end start1
theorem witness_1 : WitnessClaimed_1 := ⟨start1.p0, start1.e0, start1.about1, start1.theMethod, start1.args0, start1.below0, start1.atStart⟩
end Jvm.Pilot.@@N@@
