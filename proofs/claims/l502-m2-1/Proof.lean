import JvmDerived
import JvmDerived.Pilot.@@N@@Statement
import JvmDerived.Pilot.@@N@@Code
set_option linter.unusedVariables false
set_option linter.unusedSimpArgs false
@@BLOCK:NumsL.lean.txt@@
namespace Jvm.Pilot.@@N@@
open Jvm Jvm.ClassFile Sem Op Lib Jvm.Free Jvm.Stand Jvm.LawKit Jvm.RoadKit Bundle Jvm.Pilot.@@N@@.Jvm.D
section Own
variable {p : Program} {l : Launch} {e : Env} {R : Room} {s : State} {m : MethodId} {args : Array Value} {below : List Frame} {meth : Method} {c : Code} {T T' : State} {locs : List Loc} {cells slots : Nat} {Z : State} {h h' h0 : Heap} {n0 : Nat} {ws : List Addr} {a0 : Array Value}
/-- what is still to be shown: from this frame the run ends as G says -/
def own_G (p : Program) (e : Env) (below : List Frame) (G : Outcome → State → Prop) (T : State) (f : JFrame) : Prop :=
  ∃ s₂ o, Steps p.tables e below (T.setTop f) s₂ ∧ s₂.status = .running ∧ Ended s₂ below o ∧ G o s₂
theorem own_st {G : Outcome → State → Prop} {f f' : JFrame} (q : ∀ t, Steps p.tables e below (T'.setTop f') t → Steps p.tables e below (T.setTop f) t) (k : own_G p e below G T' f') : own_G p e below G T f := by
  obtain ⟨a, o, r1, r2⟩ := k
  exact ⟨a, o, q a r1, r2⟩
theorem own_cast {G : Outcome → State → Prop} {f f' : JFrame} (q : f = f') (k : own_G p e below G T f') : own_G p e below G T f := q ▸ k
def own_D (s : State) (Q : Option Value → Heap → List Loc → Prop) (C S : Nat) (o : Outcome) (U : State) : Prop := ∃ v L, o = .returned v ∧ Q v U.heap L ∧ FrameEnd s o U L C S
def own_Q (n0 : Nat) (h0 : Heap) (ws : List Addr) (P : Option Value → Heap → Prop) (v : Option Value) (h : Heap) (L : List Loc) : Prop := Fr n0 L ∧ Keep h0 h ws ∧ P v h
def own_M (l : Launch) (y : MethodName) (code : ByteArray) (maxL : Nat) (ret : Option FieldType) (wd : List Jvm.Cond) (rm : Room) (Z : State) (as : Array Value) (h0 : Heap) (Q : Option Value → Heap → List Loc → Prop) : Prop :=
  MetFree l y (head1 (Jvm.Cond.code y code maxL ret :: wd) rm) (fun a U => a = as ∧ Z.Warmed39 U.vm ∧ U.heap = h0) (fun _ _ _ _ _ => True) (fun _ U o U' => ∃ v L, o = .returned v ∧ Q v U'.heap L ∧ FrameEnd U o U' L rm.cells rm.slots)
/-- where the walk stands: nothing old but ws was written -/
def own_S (p : Program) (l : Launch) (e : Env) (R : Room) (s : State) (m : MethodId) (args : Array Value) (below : List Frame) (meth : Method) (c : Code) (n0 : Nat) (h0 : Heap) (ws : List Addr) (T : State) (h : Heap) (cells slots : Nat) : Prop :=
  (∃ locs, Stand p l e R s m args below meth c T locs cells slots ∧ Fr n0 locs) ∧ T.heap = h ∧ Keep h0 h ws
theorem own_S.her (X : own_S p l e R s m args below meth c n0 h0 ws T h cells slots) : At T m c below := by
  obtain ⟨⟨_, X, _⟩, _⟩ := X; exact X.here
theorem own_body {y : MethodName} {code : ByteArray} {maxL : Nat} {ret : Option FieldType} {wd : List Jvm.Cond} {rm : Room} {as : Array Value} {P : Option Value → Heap → Prop} (hy : plainFor y = true)
    (B : ∀ (p : Program) (e : Env) (s : State) (m : MethodId) (below : List Frame) (meth : Method) (c : Code) (T : State), own_S p l e rm s m as below meth c n0 h0 ws T h0 0 0 → p.tables.exec = Jvm.exec → c.code = code → c.maxLocals = maxL → s.vm.findClass y.cls = some m.cls → meth.name = y.name → meth.sig.returnType = ret → meth.locks = false → Z.Warmed39 s.vm →
      own_G p e below (own_D s (own_Q n0 h0 ws P) rm.cells rm.slots) T (entryFrame m as maxL)) :
    own_M l y code maxL ret wd rm Z as h0 (own_Q n0 h0 ws P) := by
  refine MetFree.of_bodySF hy hisR ?_
  intro p e s m args below meth c s₁ Bd hml0 hP hK
  obtain ⟨rfl, hZ, hh⟩ := hP
  exact B p e s m below meth c s₁ ⟨⟨[], Stand.of_body Bd, Fr.nil n0⟩, by rw [← hh, Bd.state]; rfl, Keep.refl _ _⟩ Bd.exec Bd.bytes hml0 (findClass_of_methodNamed Bd.named) (name_of_methodNamed Bd.named Bd.method).1 Bd.returns Bd.notSynchronized hZ
section Leave
variable {P : Option Value → Heap → Prop} {pc : Nat} {Ls : Array Slot} {rest : List Value} {C S : Nat}
theorem own_retN {t : FieldType} {z : Int32} (X : own_S p l e R s m args below meth c n0 h0 ws T h cells slots) (hx : p.tables.exec = Jvm.exec) (hret : meth.sig.returnType = some t) (hlk : meth.locks = false) (ht : t = .boolean ∨ t = .byte ∨ t = .char ∨ t = .short) (hd : decode c.code pc = .ok (.ireturn, 1)) (hc : cells ≤ C) (hs : slots ≤ S) (hP : P (some (.int (nar t z))) h) :
    own_G p e below (own_D s (own_Q n0 h0 ws P) C S) T (mkF m pc Ls (.int z :: rest)) := by
  obtain ⟨⟨locs, X, N⟩, rfl, K⟩ := X
  obtain ⟨fs, hr, hrun, hended, hW, hsame⟩ := X.leave (v := some (.int (nar t z))) (fun h => by rw [hret] at h; cases h) hlk
  exact ⟨_, _, retN X hx hret ht hd hr, hrun, hended, _, _, rfl, ⟨N, K, hP⟩, ⟨_, rfl⟩, hW, hsame.mono hc hs⟩
theorem own_retI {z : Int32} (X : own_S p l e R s m args below meth c n0 h0 ws T h cells slots) (hx : p.tables.exec = Jvm.exec) (hret : meth.sig.returnType = some .int) (hlk : meth.locks = false) (hd : decode c.code pc = .ok (.ireturn, 1)) (hc : cells ≤ C) (hs : slots ≤ S) (hP : P (some (.int z)) h) :
    own_G p e below (own_D s (own_Q n0 h0 ws P) C S) T (mkF m pc Ls (.int z :: rest)) := by
  obtain ⟨⟨locs, X, N⟩, rfl, K⟩ := X
  obtain ⟨fs, hr, hrun, hended, hW, hsame⟩ := X.leave (v := some (.int z)) (fun h => by rw [hret] at h; cases h) hlk
  exact ⟨_, _, retOut X hx hret rfl (Or.inl ⟨rfl, Or.inl rfl, _, rfl⟩) hd hr, hrun, hended, _, _, rfl, ⟨N, K, hP⟩, ⟨_, rfl⟩, hW, hsame.mono hc hs⟩
theorem own_retL {z : Int64} (X : own_S p l e R s m args below meth c n0 h0 ws T h cells slots) (hx : p.tables.exec = Jvm.exec) (hret : meth.sig.returnType = some .long) (hlk : meth.locks = false) (hd : decode c.code pc = .ok (.lreturn, 1)) (hc : cells ≤ C) (hs : slots ≤ S) (hP : P (some (.long z)) h) :
    own_G p e below (own_D s (own_Q n0 h0 ws P) C S) T (mkF m pc Ls (.long z :: rest)) := by
  obtain ⟨⟨locs, X, N⟩, rfl, K⟩ := X
  obtain ⟨fs, hr, hrun, hended, hW, hsame⟩ := X.leave (v := some (.long z)) (fun h => by rw [hret] at h; cases h) hlk
  exact ⟨_, _, retOut X hx hret rfl (Or.inr (Or.inl ⟨rfl, rfl, _, rfl⟩)) hd hr, hrun, hended, _, _, rfl, ⟨N, K, hP⟩, ⟨_, rfl⟩, hW, hsame.mono hc hs⟩
theorem own_retA {t : FieldType} {z : Addr} (X : own_S p l e R s m args below meth c n0 h0 ws T h cells slots) (hx : p.tables.exec = Jvm.exec) (hret : meth.sig.returnType = some t) (hlk : meth.locks = false) (ht : t.isReference = true) (hn : narrow t (.ref z) = .ref z) (hd : decode c.code pc = .ok (.areturn, 1)) (hc : cells ≤ C) (hs : slots ≤ S) (hP : P (some (.ref z)) h) :
    own_G p e below (own_D s (own_Q n0 h0 ws P) C S) T (mkF m pc Ls (.ref z :: rest)) := by
  obtain ⟨⟨locs, X, N⟩, rfl, K⟩ := X
  obtain ⟨fs, hr, hrun, hended, hW, hsame⟩ := X.leave (v := some (.ref z)) (fun h => by rw [hret] at h; cases h) hlk
  exact ⟨_, _, retOut X hx hret hn (Or.inr (Or.inr (Or.inr (Or.inr ⟨rfl, ht, rfl⟩)))) hd hr, hrun, hended, _, _, rfl, ⟨N, K, hP⟩, ⟨_, rfl⟩, hW, hsame.mono hc hs⟩
theorem own_ret0 (X : own_S p l e R s m args below meth c n0 h0 ws T h cells slots) (hx : p.tables.exec = Jvm.exec) (hret : meth.sig.returnType = none) (hlk : meth.locks = false) (hd : decode c.code pc = .ok (.return_, 1)) (hc : cells ≤ C) (hs : slots ≤ S) (hP : P none h) :
    own_G p e below (own_D s (own_Q n0 h0 ws P) C S) T (mkF m pc Ls []) := by
  obtain ⟨⟨locs, X, N⟩, rfl, K⟩ := X
  obtain ⟨fs, hr, hrun, hended, hW, hsame⟩ := X.leave (v := none) (fun _ => rfl) hlk
  exact ⟨_, _, X.returnOut hx hret hd hr, hrun, hended, _, _, rfl, ⟨N, K, hP⟩, ⟨_, rfl⟩, hW, hsame.mono hc hs⟩
end Leave
section Calls
variable {y : MethodName} {bytes : ByteArray} {maxL : Nat} {ret : Option FieldType} {rm : Room} {W : Nat} {own : String} {index : Nat} {P : Option Value → Heap → Prop} {wsc : List Addr} {G : Outcome → State → Prop} {pc : Nat} {Ls : Array Slot} {rest stk : List Value} {ps : List FieldType} {r : Option FieldType}
theorem own_callS (as : List Value) (X : own_S p l e R s m args below meth c n0 h0 ws T h cells slots) (hx : p.tables.exec = Jvm.exec) (hZ : Z.Warmed39 s.vm) (hown : s.vm.findClass own = some m.cls)
    (w1 : (Jvm.Cond.methodLink own index y).before a0 Z = true) (w2 : (Jvm.Cond.static y).before a0 Z = true) (w3 : (Jvm.Cond.initialized y.cls).before a0 Z = true) (w4 : (Jvm.Cond.code y bytes maxL ret).before a0 Z = true) (hy : y.cls ≠ "java/lang/invoke/MethodHandle" ∧ y.cls ≠ "java/lang/invoke/VarHandle")
    (M : own_M l y bytes maxL ret [] rm Z as.toArray h (own_Q n0 h wsc P)) (q : ∀ x ∈ wsc, x ∈ ws ∨ h0.size ≤ x)
    (hf : rm.frames + 1 ≤ R.frames) (hl : W + (maxL + 11) + rm.locals ≤ R.locals) (hc : cells + rm.cells ≤ R.cells) (hs : slots + rm.slots ≤ R.slots) (hsize : Ls.size = c.maxLocals)
    (hlen : parseMethodDescriptor y.desc = some ⟨ps, r⟩) (hlen' : as.length = ps.length) (hstk : stk = as.reverse ++ rest) (hW : (rest.map fun v => v.category).sum ≤ W) (hd : decode c.code pc = .ok (.invokestatic index, 3))
    (k : ∀ v T' h', own_S p l e R s m args below meth c n0 h0 ws T' h' (cells + rm.cells) (slots + rm.slots) → Keep h h' wsc → P v h' → own_G p e below G T' (mkF m (pc + 3) Ls (v.toList ++ rest))) :
    own_G p e below G T (mkF m pc Ls stk) := by
  obtain ⟨⟨locs, X, N⟩, e0, K⟩ := X
  obtain ⟨v, vm₁, ⟨T', L', k', n'⟩, -, X', ⟨Lc, hQ, l', y', z'⟩, st⟩ := Jvm.LawKit.callS X hx (y := y) hown (mvT hZ w1) (mvT hZ w2) (mvT hZ w3) (mvT hZ w4) hy (backOf (W := W) M hZ w4 w3 hf hl) (g := mkF m pc Ls stk) rfl hsize (argsL := as) (rest := rest) (lenOf hlen hlen') hstk (by show 2 * 0 + _ ≤ _; rw [Nat.mul_zero, Nat.zero_add]; exact hW) hd (fun _ _ => ⟨rfl, e0, hc, hs⟩)
  dsimp only [Pt.U, Pt.locs, Pt.cells, Pt.slots] at X' l' y' z' st hQ
  subst l' y' z'
  obtain ⟨N', K', hP⟩ := hQ
  exact own_st st (k v T' _ ⟨⟨_, X', N.app N'⟩, rfl, K.trans K' q⟩ K' hP)
theorem own_callC (as : List Value) {a : Addr} (X : own_S p l e R s m args below meth c n0 h0 ws T h cells slots) (hx : p.tables.exec = Jvm.exec) (hZ : Z.Warmed39 s.vm) (hown : s.vm.findClass own = some m.cls) (hy1 : y.name = "<init>")
    (w1 : (Jvm.Cond.methodLink own index y).before a0 Z = true) (w2 : (Jvm.Cond.instanceMethod y).before a0 Z = true) (w3 : (Jvm.Cond.initialized y.cls).before a0 Z = true) (w4 : (Jvm.Cond.code y bytes maxL none).before a0 Z = true) (hy : y.cls ≠ "java/lang/invoke/MethodHandle" ∧ y.cls ≠ "java/lang/invoke/VarHandle")
    (M : own_M l y bytes maxL none [] rm Z (Value.ref a :: as).toArray h (own_Q n0 h wsc P)) (q : ∀ x ∈ wsc, x ∈ ws ∨ h0.size ≤ x)
    (hf : rm.frames + 1 ≤ R.frames) (hl : W + (maxL + 11) + rm.locals ≤ R.locals) (hc : cells + rm.cells ≤ R.cells) (hs : slots + rm.slots ≤ R.slots) (hsize : Ls.size = c.maxLocals)
    (hlen : parseMethodDescriptor y.desc = some ⟨ps, r⟩) (hlen' : as.length = ps.length) (hstk : stk = as.reverse ++ .ref a :: rest) (hW : (rest.map fun v => v.category).sum ≤ W) (hd : decode c.code pc = .ok (.invokespecial index, 3))
    (k : ∀ v T' h', own_S p l e R s m args below meth c n0 h0 ws T' h' (cells + rm.cells) (slots + rm.slots) → Keep h h' wsc → P v h' → own_G p e below G T' (mkF m (pc + 3) Ls (v.toList ++ rest))) :
    own_G p e below G T (mkF m pc Ls stk) := by
  obtain ⟨⟨locs, X, N⟩, e0, K⟩ := X
  obtain ⟨v, vm₁, ⟨T', L', k', n'⟩, -, X', ⟨Lc, hQ, l', y', z'⟩, st⟩ := X.specialBack hx (y := y) hy1 hown (mvT hZ w1) (mvT hZ w2) (mvT hZ w4) hy (backOf (W := W) M hZ w4 w3 hf hl) (g := mkF m pc Ls stk) rfl hsize (Steps.refl _) (a := a) (argsL := as) (rest := rest) (lenOf hlen hlen') hstk (by show 2 * 0 + _ ≤ _; rw [Nat.mul_zero, Nat.zero_add]; exact hW) hd (fun _ _ => ⟨rfl, e0, hc, hs⟩)
  dsimp only [Pt.U, Pt.locs, Pt.cells, Pt.slots] at X' l' y' z' st hQ
  subst l' y' z'
  obtain ⟨N', K', hP⟩ := hQ
  exact own_st (fun t => st.trans) (k v T' _ ⟨⟨_, X', N.app N'⟩, rfl, K.trans K' q⟩ K' hP)
theorem own_callV (as : List Value) {a : Addr} (X : own_S p l e R s m args below meth c n0 h0 ws T h cells slots) (hx : p.tables.exec = Jvm.exec) (hZ : Z.Warmed39 s.vm) (hown : s.vm.findClass own = some m.cls)
    (w1 : (Jvm.Cond.methodLink own index y).before a0 Z = true) (w2 : (Jvm.Cond.declares y).before a0 Z = true) (w3 : (Jvm.Cond.selects y.cls y y).before a0 Z = true) (w5 : (Jvm.Cond.instanceMethod y).before a0 Z = true) (w6 : (Jvm.Cond.initialized y.cls).before a0 Z = true) (w4 : (Jvm.Cond.code y bytes maxL ret).before a0 Z = true) (hy : y.cls ≠ "java/lang/invoke/MethodHandle" ∧ y.cls ≠ "java/lang/invoke/VarHandle")
    (E : Exa Z h a y.cls)
    (M : own_M l y bytes maxL ret [] rm Z (Value.ref a :: as).toArray h (own_Q n0 h wsc P)) (q : ∀ x ∈ wsc, x ∈ ws ∨ h0.size ≤ x)
    (hf : rm.frames + 1 ≤ R.frames) (hl : W + (maxL + 11) + rm.locals ≤ R.locals) (hc : cells + rm.cells ≤ R.cells) (hs : slots + rm.slots ≤ R.slots) (hsize : Ls.size = c.maxLocals)
    (hlen : parseMethodDescriptor y.desc = some ⟨ps, r⟩) (hlen' : as.length = ps.length) (hstk : stk = as.reverse ++ .ref a :: rest) (hW : (rest.map fun v => v.category).sum ≤ W) (hd : decode c.code pc = .ok (.invokevirtual index, 3))
    (k : ∀ v T' h', own_S p l e R s m args below meth c n0 h0 ws T' h' (cells + rm.cells) (slots + rm.slots) → Keep h h' wsc → P v h' → own_G p e below G T' (mkF m (pc + 3) Ls (v.toList ++ rest))) :
    own_G p e below G T (mkF m pc Ls stk) := by
  obtain ⟨⟨locs, X, N⟩, e0, K⟩ := X
  obtain ⟨cq, kq, qa, qb, qc⟩ := isOf hZ e0 E
  obtain ⟨v, vm₁, ⟨T', L', k', n'⟩, -, X', ⟨Lc, hQ, l', y', z'⟩, st⟩ := X.virtualBack hx (y := y) (z := y) hown (mvT hZ w1) (mvT hZ w2) (notFace_of_selects (args := #[]) (mvT hZ w3)) (mvT hZ w3) (mvT hZ w5) hy (backOf (W := W) M hZ w4 w6 hf hl) qa qc (g := mkF m pc Ls stk) rfl hsize (Steps.refl _) (argsL := as) (rest := rest) (lenOf hlen hlen') hstk (by show 2 * 0 + _ ≤ _; rw [Nat.mul_zero, Nat.zero_add]; exact hW) hd (fun _ _ => ⟨rfl, e0, hc, hs⟩)
  dsimp only [Pt.U, Pt.locs, Pt.cells, Pt.slots] at X' l' y' z' st hQ
  subst l' y' z'
  obtain ⟨N', K', hP⟩ := hQ
  exact own_st (fun t => st.trans) (k v T' _ ⟨⟨_, X', N.app N'⟩, rfl, K.trans K' q⟩ K' hP)
theorem own_initO {a : Addr} (X : own_S p l e R s m args below meth c n0 h0 ws T h cells slots) (hx : p.tables.exec = Jvm.exec) (hZ : Z.Warmed39 s.vm) (hown : s.vm.findClass own = some m.cls)
    (w1 : (Jvm.Cond.methodLink own index Lib.objectInit).before a0 Z = true) (w2 : (Jvm.Cond.instanceMethod Lib.objectInit).before a0 Z = true) (w3 : (Jvm.Cond.code Lib.objectInit ⟨#[0xb1]⟩ 1 none).before a0 Z = true)
    (hf : 1 ≤ R.frames) (hl : W + 12 ≤ R.locals) (hsize : Ls.size = c.maxLocals) (hW : (rest.map fun v => v.category).sum ≤ W) (hd : decode c.code pc = .ok (.invokespecial index, 3))
    (k : ∀ T', own_S p l e R s m args below meth c n0 h0 ws T' h cells slots → own_G p e below G T' (mkF m (pc + 3) Ls rest)) :
    own_G p e below G T (mkF m pc Ls (.ref a :: rest)) := by
  obtain ⟨⟨locs, X, N⟩, e0, K⟩ := X
  obtain ⟨T1, X1, e1, st⟩ := initO X hx hZ hown w1 w2 w3 e0 (g := mkF m pc Ls (.ref a :: rest)) rfl hsize rfl hd hf (W := W) (by show 2 * 0 + _ ≤ _; rw [Nat.mul_zero, Nat.zero_add]; exact hW) hl
  exact own_st st (k T1 ⟨⟨_, X1, N⟩, e1, K⟩)
/-- a pure callee: it returns this and leaves the heap -/
def own_P (val : Value) (h0 : Heap) (v : Option Value) (h : Heap) : Prop := v = some val ∧ h = h0
theorem own_callSP (as : List Value) {val : Value} (X : own_S p l e R s m args below meth c n0 h0 ws T h cells slots) (hx : p.tables.exec = Jvm.exec) (hZ : Z.Warmed39 s.vm) (hown : s.vm.findClass own = some m.cls)
    (w1 : (Jvm.Cond.methodLink own index y).before a0 Z = true) (w2 : (Jvm.Cond.static y).before a0 Z = true) (w3 : (Jvm.Cond.initialized y.cls).before a0 Z = true) (w4 : (Jvm.Cond.code y bytes maxL ret).before a0 Z = true) (hy : y.cls ≠ "java/lang/invoke/MethodHandle" ∧ y.cls ≠ "java/lang/invoke/VarHandle")
    (M : own_M l y bytes maxL ret [] rm Z as.toArray h (own_Q n0 h [] (own_P val h)))
    (hf : rm.frames + 1 ≤ R.frames) (hl : W + (maxL + 11) + rm.locals ≤ R.locals) (hc : cells + rm.cells ≤ R.cells) (hs : slots + rm.slots ≤ R.slots) (hsize : Ls.size = c.maxLocals)
    (hlen : parseMethodDescriptor y.desc = some ⟨ps, r⟩) (hlen' : as.length = ps.length) (hstk : stk = as.reverse ++ rest) (hW : (rest.map fun v => v.category).sum ≤ W) (hd : decode c.code pc = .ok (.invokestatic index, 3))
    (k : ∀ T', own_S p l e R s m args below meth c n0 h0 ws T' h (cells + rm.cells) (slots + rm.slots) → own_G p e below G T' (mkF m (pc + 3) Ls (val :: rest))) :
    own_G p e below G T (mkF m pc Ls stk) :=
  own_callS as X hx hZ hown w1 w2 w3 w4 hy M (fun _ q => nomatch q) hf hl hc hs hsize hlen hlen' hstk hW hd fun v T' h' X' _ hv => by
    obtain ⟨hv, hh⟩ := hv
    rw [hv]; rw [hh] at X'
    exact k T' X'
/-- a callee that returns nothing and leaves the heap -/
def own_N (h0 : Heap) (v : Option Value) (h : Heap) : Prop := v = none ∧ h = h0
theorem own_callCN (as : List Value) {a : Addr} (X : own_S p l e R s m args below meth c n0 h0 ws T h cells slots) (hx : p.tables.exec = Jvm.exec) (hZ : Z.Warmed39 s.vm) (hown : s.vm.findClass own = some m.cls) (hy1 : y.name = "<init>")
    (w1 : (Jvm.Cond.methodLink own index y).before a0 Z = true) (w2 : (Jvm.Cond.instanceMethod y).before a0 Z = true) (w3 : (Jvm.Cond.initialized y.cls).before a0 Z = true) (w4 : (Jvm.Cond.code y bytes maxL none).before a0 Z = true) (hy : y.cls ≠ "java/lang/invoke/MethodHandle" ∧ y.cls ≠ "java/lang/invoke/VarHandle")
    (M : own_M l y bytes maxL none [] rm Z (Value.ref a :: as).toArray h (own_Q n0 h [] (own_N h)))
    (hf : rm.frames + 1 ≤ R.frames) (hl : W + (maxL + 11) + rm.locals ≤ R.locals) (hc : cells + rm.cells ≤ R.cells) (hs : slots + rm.slots ≤ R.slots) (hsize : Ls.size = c.maxLocals)
    (hlen : parseMethodDescriptor y.desc = some ⟨ps, r⟩) (hlen' : as.length = ps.length) (hstk : stk = as.reverse ++ .ref a :: rest) (hW : (rest.map fun v => v.category).sum ≤ W) (hd : decode c.code pc = .ok (.invokespecial index, 3))
    (k : ∀ T', own_S p l e R s m args below meth c n0 h0 ws T' h (cells + rm.cells) (slots + rm.slots) → own_G p e below G T' (mkF m (pc + 3) Ls rest)) :
    own_G p e below G T (mkF m pc Ls stk) :=
  own_callC as X hx hZ hown hy1 w1 w2 w3 w4 hy M (fun _ q => nomatch q) hf hl hc hs hsize hlen hlen' hstk hW hd fun v T' h' X' _ hv => by
    obtain ⟨hv, hh⟩ := hv
    rw [hv]; rw [hh] at X'
    exact k T' X'
theorem own_callVP (as : List Value) {val : Value} {a : Addr} (X : own_S p l e R s m args below meth c n0 h0 ws T h cells slots) (hx : p.tables.exec = Jvm.exec) (hZ : Z.Warmed39 s.vm) (hown : s.vm.findClass own = some m.cls)
    (w1 : (Jvm.Cond.methodLink own index y).before a0 Z = true) (w2 : (Jvm.Cond.declares y).before a0 Z = true) (w3 : (Jvm.Cond.selects y.cls y y).before a0 Z = true) (w5 : (Jvm.Cond.instanceMethod y).before a0 Z = true) (w6 : (Jvm.Cond.initialized y.cls).before a0 Z = true) (w4 : (Jvm.Cond.code y bytes maxL ret).before a0 Z = true) (hy : y.cls ≠ "java/lang/invoke/MethodHandle" ∧ y.cls ≠ "java/lang/invoke/VarHandle")
    (E : Exa Z h a y.cls)
    (M : own_M l y bytes maxL ret [] rm Z (Value.ref a :: as).toArray h (own_Q n0 h [] (own_P val h)))
    (hf : rm.frames + 1 ≤ R.frames) (hl : W + (maxL + 11) + rm.locals ≤ R.locals) (hc : cells + rm.cells ≤ R.cells) (hs : slots + rm.slots ≤ R.slots) (hsize : Ls.size = c.maxLocals)
    (hlen : parseMethodDescriptor y.desc = some ⟨ps, r⟩) (hlen' : as.length = ps.length) (hstk : stk = as.reverse ++ .ref a :: rest) (hW : (rest.map fun v => v.category).sum ≤ W) (hd : decode c.code pc = .ok (.invokevirtual index, 3))
    (k : ∀ T', own_S p l e R s m args below meth c n0 h0 ws T' h (cells + rm.cells) (slots + rm.slots) → own_G p e below G T' (mkF m (pc + 3) Ls (val :: rest))) :
    own_G p e below G T (mkF m pc Ls stk) :=
  own_callV as X hx hZ hown w1 w2 w3 w5 w6 w4 hy E M (fun _ q => nomatch q) hf hl hc hs hsize hlen hlen' hstk hW hd fun v T' h' X' _ hv => by
    obtain ⟨hv, hh⟩ := hv
    rw [hv]; rw [hh] at X'
    exact k T' X'
theorem own_irem {x z : Int32} (X : own_S p l e R s m args below meth c n0 h0 ws T h cells slots) (hx : p.tables.exec = Jvm.exec) (hd : decode c.code pc = .ok (.irem, 1)) (hz : z ≠ 0)
    (k : own_G p e below G T (mkF m (pc + 1) Ls (.int (x % z) :: rest))) : own_G p e below G T (mkF m pc Ls (.int z :: .int x :: rest)) :=
  own_st (fun t k => XS.irem X.her hx rfl hd rfl hz (by rw [irem_eq_mod]; exact k)) k
theorem own_lrem {x z : Int64} (X : own_S p l e R s m args below meth c n0 h0 ws T h cells slots) (hx : p.tables.exec = Jvm.exec) (hd : decode c.code pc = .ok (.lrem, 1)) (hz : z ≠ 0)
    (k : own_G p e below G T (mkF m (pc + 1) Ls (.long (x % z) :: rest))) : own_G p e below G T (mkF m pc Ls (.long z :: .long x :: rest)) :=
  own_st (fun t k => XS.lrem X.her hx rfl hd rfl hz (by rw [lrem_mod]; exact k)) k
theorem own_b2 (x : Int32) : x.toInt8.toInt32.toInt8.toInt32 = x.toInt8.toInt32 := by simp
end Calls
section Heap
variable {own : String} {index : Nat} {G : Outcome → State → Prop} {pc : Nat} {Ls : Array Slot} {rest : List Value}
theorem own_ldcI {v : Int32} (X : own_S p l e R s m args below meth c n0 h0 ws T h cells slots) (hx : p.tables.exec = Jvm.exec) (hZ : Z.Warmed39 s.vm) (hown : s.vm.findClass own = some m.cls) (w : (Jvm.Cond.constant own index v).before a0 Z = true) (hd : decode c.code pc = .ok (.ldc index, 2))
    (k : own_G p e below G T (mkF m (pc + 2) Ls (.int v :: rest))) : own_G p e below G T (mkF m pc Ls rest) := by
  obtain ⟨⟨locs, X, N⟩, e0, K⟩ := X
  exact own_st (X.ldcInt hx hown (mvT hZ w) (g := mkF m pc Ls rest) rfl hd) k
theorem own_ldcL {v : Int64} (X : own_S p l e R s m args below meth c n0 h0 ws T h cells slots) (hx : p.tables.exec = Jvm.exec) (hZ : Z.Warmed39 s.vm) (hown : s.vm.findClass own = some m.cls) (w : (Jvm.Cond.constantLong own index v).before a0 Z = true) (hd : decode c.code pc = .ok (.ldc2_w index, 3))
    (k : own_G p e below G T (mkF m (pc + 3) Ls (.long v :: rest))) : own_G p e below G T (mkF m pc Ls rest) := by
  obtain ⟨⟨locs, X, N⟩, e0, K⟩ := X
  exact own_st (X.ldc2Long hx hown (mvT hZ w) (g := mkF m pc Ls rest) rfl hd) k
theorem own_getF {a : Addr} {C n d : String} {v : Value} (X : own_S p l e R s m args below meth c n0 h0 ws T h cells slots) (hx : p.tables.exec = Jvm.exec) (hZ : Z.Warmed39 s.vm) (hown : s.vm.findClass own = some m.cls) (w : (Jvm.Cond.fieldLink own index C n d).before a0 Z = true) (F : Fld Z h a C n d v) (hd : decode c.code pc = .ok (.getfield index, 3))
    (k : ∀ T', own_S p l e R s m args below meth c n0 h0 ws T' h cells slots → own_G p e below G T' (mkF m (pc + 3) Ls (v :: rest))) : own_G p e below G T (mkF m pc Ls (.ref a :: rest)) := by
  obtain ⟨⟨locs, X, N⟩, e0, K⟩ := X
  obtain ⟨T1, X1, e1, st⟩ := getF X hx hZ hown (host := "") (Or.inl w) Via.refl e0 F (g := mkF m pc Ls (.ref a :: rest)) rfl rfl hd
  exact own_st st (k T1 ⟨⟨_, X1, N⟩, e1, K⟩)
theorem own_getS {C n d : String} {v : Value} (X : own_S p l e R s m args below meth c n0 h0 ws T h cells slots) (hx : p.tables.exec = Jvm.exec) (hZ : Z.Warmed39 s.vm) (hown : s.vm.findClass own = some m.cls) (w : (Jvm.Cond.fieldLink own index C n d).before a0 Z = true) (F : Sta Z h C n d v) (hd : decode c.code pc = .ok (.getstatic index, 3))
    (k : ∀ T', own_S p l e R s m args below meth c n0 h0 ws T' h cells slots → own_G p e below G T' (mkF m (pc + 3) Ls (v :: rest))) : own_G p e below G T (mkF m pc Ls rest) := by
  obtain ⟨⟨locs, X, N⟩, e0, K⟩ := X
  obtain ⟨T1, X1, e1, st⟩ := getS2 X hx hZ hown (host := "") (Or.inl w) Via.refl e0 F (g := mkF m pc Ls rest) rfl hd
  exact own_st st (k T1 ⟨⟨_, X1, N⟩, e1, K⟩)
theorem own_putF {a : Addr} {C n d : String} {v old : Value} {kk : Nat} {ty : FieldType} (X : own_S p l e R s m args below meth c n0 h0 ws T h cells slots) (hx : p.tables.exec = Jvm.exec) (hZ : Z.Warmed39 s.vm) (hown : s.vm.findClass own = some m.cls) (w : (Jvm.Cond.fieldLink own index C n d).before a0 Z = true) (F : Fld Z h a C n d old) (E : Exa Z h a C)
    (L : (Jvm.Cond.lays C C n d).before a0 Z = true ∨ ((Jvm.Cond.laysFinal C C n d).before a0 Z = true ∧ own = C ∧ meth.name = "<init>")) (wi : (Jvm.Cond.instantiable C kk).before a0 Z = true) (hty : parseFieldDescriptor d = some ty) (hn : narrow ty v = v) (hf : fits ty v = true) (hd : decode c.code pc = .ok (.putfield index, 3)) (ga : n0 ≤ a) (qa : a ∈ ws ∨ h0.size ≤ a)
    (k : ∀ T' h', own_S p l e R s m args below meth c n0 h0 ws T' h' cells slots → Wr h h' a (Jvm.RoadKit.slotOf Z C n d) v → Fld Z h' a C n d v → Exa Z h' a C → own_G p e below G T' (mkF m (pc + 3) Ls rest)) : own_G p e below G T (mkF m pc Ls (v :: .ref a :: rest)) := by
  obtain ⟨⟨locs, X, N⟩, e0, K⟩ := X
  obtain ⟨T1, h1, X1, e1, W1, st⟩ := putF X hx hZ hown (host := "") (Or.inl w) Via.refl e0 F E L wi hty hn hf (g := mkF m pc Ls (v :: .ref a :: rest)) rfl rfl hd
  exact own_st st (k T1 h1 ⟨⟨_, X1, Fr.snoc X1 N ga⟩, e1, K.wr W1 qa⟩ W1 (F.same W1) (E.wr W1))
theorem own_newO {C : String} {kk : Nat} (X : own_S p l e R s m args below meth c n0 h0 ws T h cells slots) (hx : p.tables.exec = Jvm.exec) (hZ : Z.Warmed39 s.vm) (hown : s.vm.findClass own = some m.cls) (w : (Jvm.Cond.classLink own index C).before a0 Z = true) (wi : (Jvm.Cond.instantiable C kk).before a0 Z = true) (wz : (Jvm.Cond.initialized C).before a0 Z = true) (hd : decode c.code pc = .ok (.new index, 3)) (hc : cells + 1 ≤ R.cells) (hl : slots + kk ≤ R.slots)
    (k : ∀ T' h' (b : Addr), b = h.size → h0.size ≤ b → own_S p l e R s m args below meth c n0 h0 ws T' h' (cells + 1) (slots + kk) → Ext h h' → Exa Z h' b C → (∀ {O nm d : String} {ty : FieldType}, Laid Z a0 C O nm d → parseFieldDescriptor d = some ty → Fld Z h' b O nm d (defaultValue ty)) → own_G p e below G T' (mkF m (pc + 3) Ls (.ref b :: rest))) : own_G p e below G T (mkF m pc Ls rest) := by
  obtain ⟨⟨locs, X, N⟩, e0, K⟩ := X
  obtain ⟨T1, h1, X1, e1, E1, A1, D1, -, st⟩ := newO X hx hZ hown w wi wz e0 (g := mkF m pc Ls rest) rfl hd hc hl
  exact own_st st (k T1 h1 _ rfl K.1 ⟨⟨_, X1, N⟩, e1, K.ext E1⟩ E1 A1 D1)
/-- a byte array with these elements -/
def own_B (Z : State) (h : Heap) (a : Addr) (L : List Int32) : Prop := ∃ c : Cell, Arr Z h a c .byte ∧ c.slots = (L.map Value.int).toArray
theorem own_B.lt {a : Addr} {L : List Int32} (B : own_B Z h a L) : a < h.size := by obtain ⟨c, A, _⟩ := B; exact A.lt
theorem own_B.ext {a : Addr} {L : List Int32} (B : own_B Z h a L) (E : Ext h h') : own_B Z h' a L := by obtain ⟨c, A, q⟩ := B; exact ⟨c, A.ext E, q⟩
theorem own_B.other {a b : Addr} {L : List Int32} {sl : Nat} {v : Value} (B : own_B Z h b L) (W : Wr h h' a sl v) (q : b ≠ a) : own_B Z h' b L := by obtain ⟨c, A, r⟩ := B; exact ⟨c, A.other W q, r⟩
theorem own_B.keep {a : Addr} {L : List Int32} (B : own_B Z h a L) (K : Keep h h' ws) (q : a ∉ ws) : own_B Z h' a L := by obtain ⟨c, A, r⟩ := B; exact ⟨c, ⟨K.2.1 a c A.1 q, A.2⟩, r⟩
theorem own_bload {a : Addr} {L : List Int32} {j v : Int32} (X : own_S p l e R s m args below meth c n0 h0 ws T h cells slots) (hx : p.tables.exec = Jvm.exec) (hZ : Z.Warmed39 s.vm) (B : own_B Z h a L) (hj : ¬ j < 0) (hv : L[j.toNatClampNeg]? = some v) (hd : decode c.code pc = .ok (.baload, 1))
    (k : own_G p e below G T (mkF m (pc + 1) Ls (.int v :: rest))) : own_G p e below G T (mkF m pc Ls (.int j :: .ref a :: rest)) := by
  obtain ⟨⟨locs, X, N⟩, e0, K⟩ := X
  obtain ⟨cl, A, q⟩ := B
  have h1 : cl.slots[j.toNatClampNeg]? = some (.int v) := by rw [q]; simp [hv]
  have h2 : ¬ (j < 0 ∨ cl.slots.size ≤ j.toNatClampNeg) := fun z => z.elim hj fun z => by
    have := (Array.getElem?_eq_some_iff.mp h1).1
    omega
  exact own_st (X.baloadBytes hx (j := j) (v := .int v) (by rw [e0]; exact A.1) (State.isArrayOf_alike hZ.alike A.2.1) A.2.2 h2 h1 (g := mkF m pc Ls (.int j :: .ref a :: rest)) rfl rfl hd) k
theorem own_bstore {a : Addr} {L : List Int32} {j x : Int32} (X : own_S p l e R s m args below meth c n0 h0 ws T h cells slots) (hx : p.tables.exec = Jvm.exec) (hZ : Z.Warmed39 s.vm) (B : own_B Z h a L) (hj : ¬ j < 0) (hv : j.toNatClampNeg < L.length) (hd : decode c.code pc = .ok (.bastore, 1)) (ga : n0 ≤ a) (qa : a ∈ ws ∨ h0.size ≤ a)
    (k : ∀ T' h', own_S p l e R s m args below meth c n0 h0 ws T' h' cells slots → Keep h h' [a] → Wr h h' a j.toNatClampNeg (.int (nar .byte x)) → own_B Z h' a (L.set j.toNatClampNeg x.toInt8.toInt32) → own_G p e below G T' (mkF m (pc + 1) Ls rest)) : own_G p e below G T (mkF m pc Ls (.int x :: .int j :: .ref a :: rest)) := by
  obtain ⟨⟨locs, X, N⟩, e0, K⟩ := X
  obtain ⟨cl, A, q⟩ := B
  have h2 : ¬ (j < 0 ∨ cl.slots.size ≤ j.toNatClampNeg) := fun z => z.elim hj fun z => by
    rw [q] at z
    simp at z
    omega
  obtain ⟨T1, h1, X1, e1, W1, st⟩ := stB X hx hZ e0 A (j := j) (x := x) h2 (g := mkF m pc Ls (.int x :: .int j :: .ref a :: rest)) rfl rfl hd
  refine own_st st (k T1 h1 ⟨⟨_, X1, Fr.snoc X1 N ga⟩, e1, K.wr W1 qa⟩ (Keep.of_wr W1) W1 ⟨_, A.same W1, ?_⟩)
  show (cl.slots.setIfInBounds j.toNatClampNeg _) = _
  rw [q]
  simp [nar]
theorem own_newB {n : Int32} {kk : Nat} (X : own_S p l e R s m args below meth c n0 h0 ws T h cells slots) (hx : p.tables.exec = Jvm.exec) (hZ : Z.Warmed39 s.vm) (w : (Jvm.Cond.arrayClass .byte).before a0 Z = true) (hn : ¬ n < 0) (hk : n.toNatClampNeg = kk) (hb : kk * 8 ≤ 536870912) (hc : cells + 1 ≤ R.cells) (hl : slots + kk ≤ R.slots) (hd : decode c.code pc = .ok (.newarray .byte, 2))
    (k : ∀ T' h' (b : Addr), b = h.size → h0.size ≤ b → own_S p l e R s m args below meth c n0 h0 ws T' h' (cells + 1) (slots + kk) → Ext h h' → own_B Z h' b (List.replicate kk 0) → own_G p e below G T' (mkF m (pc + 2) Ls (.ref b :: rest))) : own_G p e below G T (mkF m pc Ls (.int n :: rest)) := by
  obtain ⟨⟨locs, X, N⟩, e0, K⟩ := X
  obtain ⟨T1, h1, cA, X1, e1, E1, A1, st⟩ := newP X hx hZ (aty := .byte) w e0 (g := mkF m pc Ls (.int n :: rest)) rfl hd rfl hn (cap := kk) (Nat.le_of_eq hk) hb hc hl
  refine own_st st (k T1 h1 _ rfl K.1 ⟨⟨_, X1, N⟩, e1, K.ext E1⟩ E1 ⟨_, A1, ?_⟩)
  show Array.replicate n.toNatClampNeg (defaultValue .byte) = _
  rw [hk]
  simp [defaultValue]
end Heap
end Own
theorem own_w0 {Z : State} {a0 : Array Value} (hw : ∀ d ∈ tables_1, d.before a0 Z = true) : (Jvm.Cond.fieldLink "com/example/studyferry/studyferry/dicom/RegisterReadingPinLaw" (13 : Nat) "com/example/studyferry/studyferry/dicom/IsoIrSet$Register" "NONE" "Lcom/example/studyferry/studyferry/dicom/IsoIrSet$Register;").before a0 Z = true := hw _ (List.mem_of_getElem? (i := 0) rfl)
theorem own_w1 {Z : State} {a0 : Array Value} (hw : ∀ d ∈ tables_1, d.before a0 Z = true) : (Jvm.Cond.initialized "com/example/studyferry/studyferry/dicom/IsoIrSet$Register").before a0 Z = true := hw _ (List.mem_of_getElem? (i := 1) rfl)
theorem own_w2 {Z : State} {a0 : Array Value} (hw : ∀ d ∈ tables_1, d.before a0 Z = true) : (Jvm.Cond.laysStatic "com/example/studyferry/studyferry/dicom/IsoIrSet$Register" "NONE" "Lcom/example/studyferry/studyferry/dicom/IsoIrSet$Register;").before a0 Z = true := hw _ (List.mem_of_getElem? (i := 2) rfl)
theorem own_w3 {Z : State} {a0 : Array Value} (hw : ∀ d ∈ tables_1, d.before a0 Z = true) : (Jvm.Cond.methodLink "com/example/studyferry/studyferry/dicom/RegisterReadingPinLaw" (19 : Nat) ({ cls := "com/example/studyferry/studyferry/dicom/IsoIrSet$Register", name := "reading", desc := "(B)Lcom/example/studyferry/studyferry/dicom/IsoIrSet$Register;" } : Jvm.MethodName)).before a0 Z = true := hw _ (List.mem_of_getElem? (i := 3) rfl)
theorem own_w4 {Z : State} {a0 : Array Value} (hw : ∀ d ∈ tables_1, d.before a0 Z = true) : (Jvm.Cond.static ({ cls := "com/example/studyferry/studyferry/dicom/IsoIrSet$Register", name := "reading", desc := "(B)Lcom/example/studyferry/studyferry/dicom/IsoIrSet$Register;" } : Jvm.MethodName)).before a0 Z = true := hw _ (List.mem_of_getElem? (i := 4) rfl)
theorem own_w5 {Z : State} {a0 : Array Value} (hw : ∀ d ∈ tables_1, d.before a0 Z = true) : (Jvm.Cond.code ({ cls := "com/example/studyferry/studyferry/dicom/IsoIrSet$Register", name := "reading", desc := "(B)Lcom/example/studyferry/studyferry/dicom/IsoIrSet$Register;" } : Jvm.MethodName) prog_28_method_4_code (3 : Nat) (Option.some (Jvm.ClassFile.FieldType.object "com/example/studyferry/studyferry/dicom/IsoIrSet$Register"))).before a0 Z = true := hw _ (List.mem_of_getElem? (i := 5) rfl)
theorem own_w6 {Z : State} {a0 : Array Value} (hw : ∀ d ∈ tables_1, d.before a0 Z = true) : (Jvm.Cond.fieldLink "com/example/studyferry/studyferry/dicom/IsoIrSet$Register" (10 : Nat) "com/example/studyferry/studyferry/dicom/IsoIrSet$Register" "NONE" "Lcom/example/studyferry/studyferry/dicom/IsoIrSet$Register;").before a0 Z = true := hw _ (List.mem_of_getElem? (i := 6) rfl)
theorem own_w7 {Z : State} {a0 : Array Value} (hw : ∀ d ∈ tables_1, d.before a0 Z = true) : (Jvm.Cond.fieldLink "com/example/studyferry/studyferry/dicom/RegisterReadingPinLaw" (16 : Nat) "com/example/studyferry/studyferry/dicom/IsoIrSet$Register" "G0" "Lcom/example/studyferry/studyferry/dicom/IsoIrSet$Register;").before a0 Z = true := hw _ (List.mem_of_getElem? (i := 7) rfl)
theorem own_w8 {Z : State} {a0 : Array Value} (hw : ∀ d ∈ tables_1, d.before a0 Z = true) : (Jvm.Cond.laysStatic "com/example/studyferry/studyferry/dicom/IsoIrSet$Register" "G0" "Lcom/example/studyferry/studyferry/dicom/IsoIrSet$Register;").before a0 Z = true := hw _ (List.mem_of_getElem? (i := 8) rfl)
theorem own_w9 {Z : State} {a0 : Array Value} (hw : ∀ d ∈ tables_1, d.before a0 Z = true) : (Jvm.Cond.fieldLink "com/example/studyferry/studyferry/dicom/IsoIrSet$Register" (3 : Nat) "com/example/studyferry/studyferry/dicom/IsoIrSet$Register" "G0" "Lcom/example/studyferry/studyferry/dicom/IsoIrSet$Register;").before a0 Z = true := hw _ (List.mem_of_getElem? (i := 9) rfl)
theorem own_w10 {Z : State} {a0 : Array Value} (hw : ∀ d ∈ tables_1, d.before a0 Z = true) : (Jvm.Cond.fieldLink "com/example/studyferry/studyferry/dicom/RegisterReadingPinLaw" (7 : Nat) "com/example/studyferry/studyferry/dicom/IsoIrSet$Register" "G1" "Lcom/example/studyferry/studyferry/dicom/IsoIrSet$Register;").before a0 Z = true := hw _ (List.mem_of_getElem? (i := 10) rfl)
theorem own_w11 {Z : State} {a0 : Array Value} (hw : ∀ d ∈ tables_1, d.before a0 Z = true) : (Jvm.Cond.laysStatic "com/example/studyferry/studyferry/dicom/IsoIrSet$Register" "G1" "Lcom/example/studyferry/studyferry/dicom/IsoIrSet$Register;").before a0 Z = true := hw _ (List.mem_of_getElem? (i := 11) rfl)
theorem own_w12 {Z : State} {a0 : Array Value} (hw : ∀ d ∈ tables_1, d.before a0 Z = true) : (Jvm.Cond.fieldLink "com/example/studyferry/studyferry/dicom/IsoIrSet$Register" (7 : Nat) "com/example/studyferry/studyferry/dicom/IsoIrSet$Register" "G1" "Lcom/example/studyferry/studyferry/dicom/IsoIrSet$Register;").before a0 Z = true := hw _ (List.mem_of_getElem? (i := 12) rfl)
theorem own_pd0 : parseMethodDescriptor "(B)Lcom/example/studyferry/studyferry/dicom/IsoIrSet$Register;" = some ⟨[.byte], some (.object "com/example/studyferry/studyferry/dicom/IsoIrSet$Register")⟩ := by decide +kernel
theorem own_pn0 : plainName "com/example/studyferry/studyferry/dicom/IsoIrSet$Register" = true := by first | (simp [plainName, overriddenIn]; done) | decide +kernel
theorem own_pd1 : parseMethodDescriptor "(I)Z" = some ⟨[.int], some .boolean⟩ := by decide +kernel
theorem own_pn1 : plainName "com/example/studyferry/studyferry/dicom/RegisterReadingPinLaw" = true := by first | (simp [plainName, overriddenIn]; done) | decide +kernel
theorem own_nat (x : Int32) (hx : 0 ≤ x.toInt) : x.toInt = (x.toBitVec.toNat : Int) ∧ x.toBitVec.toNat < 2147483648 := by
  have e : x.toInt = x.toBitVec.toInt := rfl
  have := x.toBitVec.isLt
  rw [e, BitVec.toInt_eq_toNat_cond] at hx ⊢
  split at hx <;> rename_i q
  · rw [if_pos q]; omega
  · omega
theorem own_ofnat (x : Int32) (h : x.toBitVec.toNat < 2147483648) : x.toInt = (x.toBitVec.toNat : Int) := by
  have e : x.toInt = x.toBitVec.toInt := rfl
  rw [e, BitVec.toInt_eq_toNat_cond, if_pos (by omega)]
theorem own_i2c (x : Int32) : (x.toUInt32.toUInt16.toUInt32.toInt32).toInt = x.toInt % 65536 := by
  have n1 : (x.toUInt32.toUInt16.toUInt32.toInt32).toBitVec.toNat = x.toBitVec.toNat % 65536 := by simp
  rw [own_ofnat _ (by omega), n1]
  have e2 : x.toInt = Int.bmod x.toBitVec.toNat (2 ^ 32) := BitVec.toInt_eq_toNat_bmod _
  rw [e2, Int.bmod_def]
  omega
theorem own_i2b (x : Int32) : (x.toInt8.toInt32).toInt = (x.toInt + 128) % 256 - 128 := by
  rw [Int8.toInt_toInt32, Int32.toInt_toInt8, Int.bmod_def]
  omega
theorem d1_0 : decode prog_28_method_4_code 0 = .ok (.iload_n 0, 1) := by decide +kernel
theorem d1_1 : decode prog_28_method_4_code 1 = .ok (.sipush 255, 3) := by decide +kernel
theorem d1_4 : decode prog_28_method_4_code 4 = .ok (.iand, 1) := by decide +kernel
theorem d1_5 : decode prog_28_method_4_code 5 = .ok (.istore_n 1, 1) := by decide +kernel
theorem d1_6 : decode prog_28_method_4_code 6 = .ok (.getstatic 10, 3) := by decide +kernel
theorem d1_9 : decode prog_28_method_4_code 9 = .ok (.astore_n 2, 1) := by decide +kernel
theorem d1_10 : decode prog_28_method_4_code 10 = .ok (.iload_n 1, 1) := by decide +kernel
theorem d1_11 : decode prog_28_method_4_code 11 = .ok (.sipush 128, 3) := by decide +kernel
theorem d1_14 : decode prog_28_method_4_code 14 = .ok (.if_icmp .lt 10, 3) := by decide +kernel
theorem d1_17 : decode prog_28_method_4_code 17 = .ok (.getstatic 7, 3) := by decide +kernel
theorem d1_20 : decode prog_28_method_4_code 20 = .ok (.astore_n 2, 1) := by decide +kernel
theorem d1_21 : decode prog_28_method_4_code 21 = .ok (.goto 19, 3) := by decide +kernel
theorem d1_24 : decode prog_28_method_4_code 24 = .ok (.iload_n 1, 1) := by decide +kernel
theorem d1_25 : decode prog_28_method_4_code 25 = .ok (.bipush 32, 2) := by decide +kernel
theorem d1_27 : decode prog_28_method_4_code 27 = .ok (.if_icmp .le 13, 3) := by decide +kernel
theorem d1_30 : decode prog_28_method_4_code 30 = .ok (.iload_n 1, 1) := by decide +kernel
theorem d1_31 : decode prog_28_method_4_code 31 = .ok (.bipush 127, 2) := by decide +kernel
theorem d1_33 : decode prog_28_method_4_code 33 = .ok (.if_icmp .ge 7, 3) := by decide +kernel
theorem d1_36 : decode prog_28_method_4_code 36 = .ok (.getstatic 3, 3) := by decide +kernel
theorem d1_39 : decode prog_28_method_4_code 39 = .ok (.astore_n 2, 1) := by decide +kernel
theorem d1_40 : decode prog_28_method_4_code 40 = .ok (.aload_n 2, 1) := by decide +kernel
theorem d1_41 : decode prog_28_method_4_code 41 = .ok (.areturn, 1) := by decide +kernel
/-- what the body returns -/
def own_F1 (p0 : Int32) (vN : Addr) (v0 : Addr) (v1 : Addr) : Addr :=
  (if (p0 &&& (255 : Int32)) < (128 : Int32) then (if (32 : Int32) < (p0 &&& (255 : Int32)) then (if (p0 &&& (255 : Int32)) < (127 : Int32) then v0 else vN) else vN) else v1)
theorem own_ef1 (m : MethodId) (p0 : Int32) : entryFrame m #[(.int p0)] 3 = mkF m 0 #[.val (.int p0), .unset, .unset] [] := by first | (simp [entryFrame, mkF, argsToLocals, Value.category]; done) | rfl
set_option maxRecDepth 65536 in
set_option maxHeartbeats 40000000 in
theorem own_c1 (l : Launch) (Z : State) (a0 : Array Value) (hw : ∀ d ∈ tables_1, d.before a0 Z = true) (h0 : Heap) (n0 : Nat) (Z0 : n0 ≤ h0.size) (p0 : Int32) (vN : Addr) (v0 : Addr) (v1 : Addr) (SvN : Sta Z h0 "com/example/studyferry/studyferry/dicom/IsoIrSet$Register" "NONE" "Lcom/example/studyferry/studyferry/dicom/IsoIrSet$Register;" (.ref vN)) (Sv0 : Sta Z h0 "com/example/studyferry/studyferry/dicom/IsoIrSet$Register" "G0" "Lcom/example/studyferry/studyferry/dicom/IsoIrSet$Register;" (.ref v0)) (Sv1 : Sta Z h0 "com/example/studyferry/studyferry/dicom/IsoIrSet$Register" "G1" "Lcom/example/studyferry/studyferry/dicom/IsoIrSet$Register;" (.ref v1)) :
    own_M l (⟨"com/example/studyferry/studyferry/dicom/IsoIrSet$Register", "reading", "(B)Lcom/example/studyferry/studyferry/dicom/IsoIrSet$Register;"⟩ : MethodName) prog_28_method_4_code 3 (some (.object "com/example/studyferry/studyferry/dicom/IsoIrSet$Register")) [] ({ frames := 0, cells := 0, slots := 0, locals := 0 } : Room) Z #[(.int p0)] h0 (own_Q n0 h0 [] (own_P (.ref (own_F1 p0 vN v0 v1)) h0)) := by
  refine own_body (plainFor_of_name own_pn0) ?_
  intro p e s m below meth c T0 X0 hx hby hml hown hnm hret hlk hZ
  refine own_cast (own_ef1 m p0) ?_
  refine own_st (f' := (mkF m 1 #[.val (.int p0), .unset, .unset] [(.int p0)])) (fun t k => XS.iloadN X0.her hx rfl (hb hby d1_0) rfl k) ?_
  refine own_st (f' := (mkF m 4 #[.val (.int p0), .unset, .unset] [(.int (255 : Int32)), (.int p0)])) (fun t k => XS.sipush X0.her hx rfl (hb hby d1_1) k) ?_
  refine own_st (f' := (mkF m 5 #[.val (.int p0), .unset, .unset] [(.int (p0 &&& (255 : Int32)))])) (fun t k => XS.iand X0.her hx rfl (hb hby d1_4) rfl k) ?_
  refine own_st (f' := (mkF m 6 #[.val (.int p0), .val (.int (p0 &&& (255 : Int32))), .unset] [])) (fun t k => XS.istoreN X0.her hx rfl (hb hby d1_5) rfl (l' := #[.val (.int p0), .val (.int (p0 &&& (255 : Int32))), .unset]) rfl k) ?_
  refine own_getS X0 hx hZ hown (own_w6 hw) SvN (hb hby d1_6) ?_
  intro T1 X1
  refine own_st (f' := (mkF m 10 #[.val (.int p0), .val (.int (p0 &&& (255 : Int32))), .val (.ref vN)] [])) (fun t k => XS.astoreN X1.her hx rfl (hb hby d1_9) rfl rfl (l' := #[.val (.int p0), .val (.int (p0 &&& (255 : Int32))), .val (.ref vN)]) rfl k) ?_
  refine own_st (f' := (mkF m 11 #[.val (.int p0), .val (.int (p0 &&& (255 : Int32))), .val (.ref vN)] [(.int (p0 &&& (255 : Int32)))])) (fun t k => XS.iloadN X1.her hx rfl (hb hby d1_10) rfl k) ?_
  refine own_st (f' := (mkF m 14 #[.val (.int p0), .val (.int (p0 &&& (255 : Int32))), .val (.ref vN)] [(.int (128 : Int32)), (.int (p0 &&& (255 : Int32)))])) (fun t k => XS.sipush X1.her hx rfl (hb hby d1_11) k) ?_
  by_cases hc2 : (p0 &&& (255 : Int32)) < (128 : Int32)
  · refine own_st (f' := (mkF m 24 #[.val (.int p0), .val (.int (p0 &&& (255 : Int32))), .val (.ref vN)] [])) (fun t k => XS.icmpYes X1.her hx rfl (pc0 := 14) (pc' := 24) rfl (hb hby d1_14) rfl (tlt hc2).1 (by decide) (by decide) k) ?_
    refine own_st (f' := (mkF m 25 #[.val (.int p0), .val (.int (p0 &&& (255 : Int32))), .val (.ref vN)] [(.int (p0 &&& (255 : Int32)))])) (fun t k => XS.iloadN X1.her hx rfl (hb hby d1_24) rfl k) ?_
    refine own_st (f' := (mkF m 27 #[.val (.int p0), .val (.int (p0 &&& (255 : Int32))), .val (.ref vN)] [(.int (32 : Int32)), (.int (p0 &&& (255 : Int32)))])) (fun t k => XS.bipush X1.her hx rfl (hb hby d1_25) k) ?_
    by_cases hc3 : (32 : Int32) < (p0 &&& (255 : Int32))
    · refine own_st (f' := (mkF m 30 #[.val (.int p0), .val (.int (p0 &&& (255 : Int32))), .val (.ref vN)] [])) (fun t k => XS.icmpNo X1.her hx rfl (hb hby d1_27) rfl (tlt hc3).2.2.2 k) ?_
      refine own_st (f' := (mkF m 31 #[.val (.int p0), .val (.int (p0 &&& (255 : Int32))), .val (.ref vN)] [(.int (p0 &&& (255 : Int32)))])) (fun t k => XS.iloadN X1.her hx rfl (hb hby d1_30) rfl k) ?_
      refine own_st (f' := (mkF m 33 #[.val (.int p0), .val (.int (p0 &&& (255 : Int32))), .val (.ref vN)] [(.int (127 : Int32)), (.int (p0 &&& (255 : Int32)))])) (fun t k => XS.bipush X1.her hx rfl (hb hby d1_31) k) ?_
      by_cases hc4 : (p0 &&& (255 : Int32)) < (127 : Int32)
      · refine own_st (f' := (mkF m 36 #[.val (.int p0), .val (.int (p0 &&& (255 : Int32))), .val (.ref vN)] [])) (fun t k => XS.icmpNo X1.her hx rfl (hb hby d1_33) rfl (tlt hc4).2.1 k) ?_
        refine own_getS X1 hx hZ hown (own_w9 hw) Sv0 (hb hby d1_36) ?_
        intro T5 X5
        refine own_st (f' := (mkF m 40 #[.val (.int p0), .val (.int (p0 &&& (255 : Int32))), .val (.ref v0)] [])) (fun t k => XS.astoreN X5.her hx rfl (hb hby d1_39) rfl rfl (l' := #[.val (.int p0), .val (.int (p0 &&& (255 : Int32))), .val (.ref v0)]) rfl k) ?_
        refine own_st (f' := (mkF m 41 #[.val (.int p0), .val (.int (p0 &&& (255 : Int32))), .val (.ref v0)] [(.ref v0)])) (fun t k => XS.aloadN X5.her hx rfl (hb hby d1_40) rfl rfl k) ?_
        refine own_retA X5 hx hret hlk rfl rfl (hb hby d1_41) (by first | decide | omega) (by first | decide | omega) ?_
        exact ⟨congrArg (fun q => some (Value.ref q)) (by unfold own_F1; rw [if_pos hc2, if_pos hc3, if_pos hc4]; first | done | exact rfl), rfl⟩
      · refine own_st (f' := (mkF m 40 #[.val (.int p0), .val (.int (p0 &&& (255 : Int32))), .val (.ref vN)] [])) (fun t k => XS.icmpYes X1.her hx rfl (pc0 := 33) (pc' := 40) rfl (hb hby d1_33) rfl (flt hc4).2.1 (by decide) (by decide) k) ?_
        refine own_st (f' := (mkF m 41 #[.val (.int p0), .val (.int (p0 &&& (255 : Int32))), .val (.ref vN)] [(.ref vN)])) (fun t k => XS.aloadN X1.her hx rfl (hb hby d1_40) rfl rfl k) ?_
        refine own_retA X1 hx hret hlk rfl rfl (hb hby d1_41) (by first | decide | omega) (by first | decide | omega) ?_
        exact ⟨congrArg (fun q => some (Value.ref q)) (by unfold own_F1; rw [if_pos hc2, if_pos hc3, if_neg hc4]; first | done | exact rfl), rfl⟩
    · refine own_st (f' := (mkF m 40 #[.val (.int p0), .val (.int (p0 &&& (255 : Int32))), .val (.ref vN)] [])) (fun t k => XS.icmpYes X1.her hx rfl (pc0 := 27) (pc' := 40) rfl (hb hby d1_27) rfl (flt hc3).2.2.2 (by decide) (by decide) k) ?_
      refine own_st (f' := (mkF m 41 #[.val (.int p0), .val (.int (p0 &&& (255 : Int32))), .val (.ref vN)] [(.ref vN)])) (fun t k => XS.aloadN X1.her hx rfl (hb hby d1_40) rfl rfl k) ?_
      refine own_retA X1 hx hret hlk rfl rfl (hb hby d1_41) (by first | decide | omega) (by first | decide | omega) ?_
      exact ⟨congrArg (fun q => some (Value.ref q)) (by unfold own_F1; rw [if_pos hc2, if_neg hc3]; first | done | exact rfl), rfl⟩
  · refine own_st (f' := (mkF m 17 #[.val (.int p0), .val (.int (p0 &&& (255 : Int32))), .val (.ref vN)] [])) (fun t k => XS.icmpNo X1.her hx rfl (hb hby d1_14) rfl (flt hc2).1 k) ?_
    refine own_getS X1 hx hZ hown (own_w12 hw) Sv1 (hb hby d1_17) ?_
    intro T6 X6
    refine own_st (f' := (mkF m 21 #[.val (.int p0), .val (.int (p0 &&& (255 : Int32))), .val (.ref v1)] [])) (fun t k => XS.astoreN X6.her hx rfl (hb hby d1_20) rfl rfl (l' := #[.val (.int p0), .val (.int (p0 &&& (255 : Int32))), .val (.ref v1)]) rfl k) ?_
    refine own_st (f' := (mkF m 40 #[.val (.int p0), .val (.int (p0 &&& (255 : Int32))), .val (.ref v1)] [])) (fun t k => XS.goto X6.her hx rfl (pc0 := 21) (pc' := 40) rfl (hb hby d1_21) (by decide) (by decide) k) ?_
    refine own_st (f' := (mkF m 41 #[.val (.int p0), .val (.int (p0 &&& (255 : Int32))), .val (.ref v1)] [(.ref v1)])) (fun t k => XS.aloadN X6.her hx rfl (hb hby d1_40) rfl rfl k) ?_
    refine own_retA X6 hx hret hlk rfl rfl (hb hby d1_41) (by first | decide | omega) (by first | decide | omega) ?_
    exact ⟨congrArg (fun q => some (Value.ref q)) (by unfold own_F1; rw [if_neg hc2]; first | done | exact rfl), rfl⟩
/-- the plain law -/
theorem own_r1 (t : Int32) (vN v0 v1 : Addr) (b : -128 ≤ t.toInt ∧ t.toInt < 128) (h : t < 0) : own_F1 t vN v0 v1 = v1 := by
  have m : (t &&& 255).toInt = t.toInt % 2 ^ 8 := Jvm.Kit.i32_mask t 255 (by decide) (by decide)
  rw [Int32.lt_iff_toInt_lt, show (0 : Int32).toInt = 0 from rfl] at h
  unfold own_F1
  rw [if_neg]
  rw [Int32.lt_iff_toInt_lt, m, show (128 : Int32).toInt = 128 from rfl]
  omega
theorem own_r2 (t : Int32) (vN v0 v1 : Addr) (b : -128 ≤ t.toInt ∧ t.toInt < 128) (h : ¬ t < 0) (h2 : ¬ (32 : Int32) < t) : own_F1 t vN v0 v1 = vN := by
  have m : (t &&& 255).toInt = t.toInt % 2 ^ 8 := Jvm.Kit.i32_mask t 255 (by decide) (by decide)
  rw [Int32.lt_iff_toInt_lt, show (0 : Int32).toInt = 0 from rfl] at h
  rw [Int32.lt_iff_toInt_lt, show (32 : Int32).toInt = 32 from rfl] at h2
  unfold own_F1
  rw [if_pos, if_neg]
  · rw [Int32.lt_iff_toInt_lt, m, show (32 : Int32).toInt = 32 from rfl]; omega
  · rw [Int32.lt_iff_toInt_lt, m, show (128 : Int32).toInt = 128 from rfl]; omega
theorem own_r3 (t : Int32) (vN v0 v1 : Addr) (h3 : t = 127) : own_F1 t vN v0 v1 = vN := by
  subst h3
  unfold own_F1
  rw [if_pos (by decide), if_pos (by decide), if_neg (by decide)]
theorem own_r4 (t : Int32) (vN v0 v1 : Addr) (b : -128 ≤ t.toInt ∧ t.toInt < 128) (h : ¬ t < 0) (h2 : (32 : Int32) < t) (h3 : ¬ t = 127) : own_F1 t vN v0 v1 = v0 := by
  have m : (t &&& 255).toInt = t.toInt % 2 ^ 8 := Jvm.Kit.i32_mask t 255 (by decide) (by decide)
  rw [Int32.lt_iff_toInt_lt, show (0 : Int32).toInt = 0 from rfl] at h
  rw [Int32.lt_iff_toInt_lt, show (32 : Int32).toInt = 32 from rfl] at h2
  rw [← Int32.toInt_inj, show (127 : Int32).toInt = 127 from rfl] at h3
  unfold own_F1
  rw [if_pos, if_pos, if_pos]
  · rw [Int32.lt_iff_toInt_lt, m, show (127 : Int32).toInt = 127 from rfl]; omega
  · rw [Int32.lt_iff_toInt_lt, m, show (32 : Int32).toInt = 32 from rfl]; omega
  · rw [Int32.lt_iff_toInt_lt, m, show (128 : Int32).toInt = 128 from rfl]; omega
theorem own_bb (x : Int32) : -128 ≤ (x.toInt8.toInt32).toInt ∧ (x.toInt8.toInt32).toInt < 128 := by
  rw [own_i2b]; omega
theorem own_ef0 (m : MethodId) (p0 : Int32) : entryFrame m #[(.int p0)] maxLocals = mkF m 0 #[.val (.int p0), .unset, .unset, .unset] [] := by first | (simp [entryFrame, mkF, argsToLocals, Value.category, maxLocals]; done) | rfl
set_option maxRecDepth 65536 in
set_option maxHeartbeats 40000000 in
theorem own_c0 (l : Launch) (Z : State) (a0 : Array Value) (hw : ∀ d ∈ tables_1, d.before a0 Z = true) (h0 : Heap) (n0 : Nat) (Z0 : n0 ≤ h0.size) (p0 : Int32) (vN : Addr) (v0 : Addr) (v1 : Addr) (SvN : Sta Z h0 "com/example/studyferry/studyferry/dicom/IsoIrSet$Register" "NONE" "Lcom/example/studyferry/studyferry/dicom/IsoIrSet$Register;" (.ref vN)) (Sv0 : Sta Z h0 "com/example/studyferry/studyferry/dicom/IsoIrSet$Register" "G0" "Lcom/example/studyferry/studyferry/dicom/IsoIrSet$Register;" (.ref v0)) (Sv1 : Sta Z h0 "com/example/studyferry/studyferry/dicom/IsoIrSet$Register" "G1" "Lcom/example/studyferry/studyferry/dicom/IsoIrSet$Register;" (.ref v1)) :
    own_M l x code maxLocals ret tables_1 room_1 Z #[(.int p0)] h0 (own_Q n0 h0 [] (fun v _ => v = some (.int 1))) := by
  refine own_body (plainFor_of_name own_pn1) ?_
  intro p e s m below meth c T0 X0 hx hby hml hown hnm hret hlk hZ
  refine own_cast (own_ef0 m p0) ?_
  refine own_st (f' := (mkF m 1 #[.val (.int p0), .unset, .unset, .unset] [(.int p0)])) (fun t k => XS.iloadN X0.her hx rfl (hb hby at_0) rfl k) ?_
  refine own_st (f' := (mkF m 2 #[.val (.int p0), .unset, .unset, .unset] [(.int (p0.toInt8.toInt32))])) (fun t k => XS.i2b X0.her hx rfl (hb hby at_1) rfl k) ?_
  refine own_st (f' := (mkF m 3 #[.val (.int p0), .val (.int (p0.toInt8.toInt32)), .unset, .unset] [])) (fun t k => XS.istoreN X0.her hx rfl (hb hby at_2) rfl (l' := #[.val (.int p0), .val (.int (p0.toInt8.toInt32)), .unset, .unset]) rfl k) ?_
  refine own_st (f' := (mkF m 4 #[.val (.int p0), .val (.int (p0.toInt8.toInt32)), .unset, .unset] [(.int (p0.toInt8.toInt32))])) (fun t k => XS.iloadN X0.her hx rfl (hb hby at_3) rfl k) ?_
  refine own_st (f' := (mkF m 5 #[.val (.int p0), .val (.int (p0.toInt8.toInt32)), .val (.int (p0.toInt8.toInt32)), .unset] [])) (fun t k => XS.istoreN X0.her hx rfl (hb hby at_4) rfl (l' := #[.val (.int p0), .val (.int (p0.toInt8.toInt32)), .val (.int (p0.toInt8.toInt32)), .unset]) rfl k) ?_
  refine own_st (f' := (mkF m 6 #[.val (.int p0), .val (.int (p0.toInt8.toInt32)), .val (.int (p0.toInt8.toInt32)), .unset] [(.int (p0.toInt8.toInt32))])) (fun t k => XS.iloadN X0.her hx rfl (hb hby at_5) rfl k) ?_
  by_cases hc7 : (p0.toInt8.toInt32) < (0 : Int32)
  · refine own_st (f' := (mkF m 9 #[.val (.int p0), .val (.int (p0.toInt8.toInt32)), .val (.int (p0.toInt8.toInt32)), .unset] [])) (fun t k => XS.ifNo X0.her hx rfl (hb hby at_6) rfl ((if0 _ _).trans (tlt hc7).2.1) k) ?_
    refine own_getS X0 hx hZ hown (own_w10 hw) Sv1 (hb hby at_9) ?_
    intro T8 X8
    refine own_st (f' := (mkF m 13 #[.val (.int p0), .val (.int (p0.toInt8.toInt32)), .val (.int (p0.toInt8.toInt32)), .val (.ref v1)] [])) (fun t k => XS.astoreN X8.her hx rfl (hb hby at_12) rfl rfl (l' := #[.val (.int p0), .val (.int (p0.toInt8.toInt32)), .val (.int (p0.toInt8.toInt32)), .val (.ref v1)]) rfl k) ?_
    refine own_st (f' := (mkF m 39 #[.val (.int p0), .val (.int (p0.toInt8.toInt32)), .val (.int (p0.toInt8.toInt32)), .val (.ref v1)] [])) (fun t k => XS.goto X8.her hx rfl (pc0 := 13) (pc' := 39) rfl (hb hby at_13) (by decide) (by decide) k) ?_
    refine own_st (f' := (mkF m 40 #[.val (.int p0), .val (.int (p0.toInt8.toInt32)), .val (.int (p0.toInt8.toInt32)), .val (.ref v1)] [(.int (p0.toInt8.toInt32))])) (fun t k => XS.iloadN X8.her hx rfl (hb hby at_39) rfl k) ?_
    refine own_callSP (y := (⟨"com/example/studyferry/studyferry/dicom/IsoIrSet$Register", "reading", "(B)Lcom/example/studyferry/studyferry/dicom/IsoIrSet$Register;"⟩ : MethodName)) (W := 0) [(.int (p0.toInt8.toInt32))] X8 hx hZ hown (own_w3 hw) (own_w4 hw) (own_w1 hw) (own_w5 hw) (by decide) (own_c1 l Z a0 hw h0 n0 Z0 (p0.toInt8.toInt32) vN v0 v1 SvN Sv0 Sv1) (by decide) (by decide) (by decide) (by decide) (by rw [hml]; rfl) own_pd0 rfl rfl (Nat.le_of_eq rfl) (hb hby at_40) ?_
    intro T9 X9
    show own_G p e below _ T9 (mkF m 43 #[.val (.int p0), .val (.int (p0.toInt8.toInt32)), .val (.int (p0.toInt8.toInt32)), .val (.ref v1)] [(.ref (own_F1 (p0.toInt8.toInt32) vN v0 v1))])
    refine own_st (f' := (mkF m 44 #[.val (.int p0), .val (.int (p0.toInt8.toInt32)), .val (.int (p0.toInt8.toInt32)), .val (.ref v1)] [(.ref v1), (.ref (own_F1 (p0.toInt8.toInt32) vN v0 v1))])) (fun t k => XS.aloadN X9.her hx rfl (hb hby at_43) rfl rfl k) ?_
    obtain ⟨⟨locs_, Y_, N_⟩, eh_, Kp_⟩ := id X9
    refine own_st (f' := (mkF m 47 #[.val (.int p0), .val (.int (p0.toInt8.toInt32)), .val (.int (p0.toInt8.toInt32)), .val (.ref v1)] [])) (fun t k => Jvm.RoadKit.acmp (g := (mkF m 44 #[.val (.int p0), .val (.int (p0.toInt8.toInt32)), .val (.int (p0.toInt8.toInt32)), .val (.ref v1)] [(.ref v1), (.ref (own_F1 (p0.toInt8.toInt32) vN v0 v1))])) Y_ hx rfl rfl rfl (pc0 := 44) (pc' := 47) (same := true) rfl (hb hby at_44) rfl (decide_eq_true (congrArg Value.ref (own_r1 _ _ _ _ (own_bb _) hc7))) (by decide) (by decide) k) ?_
    refine own_st (f' := (mkF m 48 #[.val (.int p0), .val (.int (p0.toInt8.toInt32)), .val (.int (p0.toInt8.toInt32)), .val (.ref v1)] [(.int (1 : Int32))])) (fun t k => XS.iconst X9.her hx rfl (hb hby at_47) k) ?_
    refine own_st (f' := (mkF m 52 #[.val (.int p0), .val (.int (p0.toInt8.toInt32)), .val (.int (p0.toInt8.toInt32)), .val (.ref v1)] [(.int (1 : Int32))])) (fun t k => XS.goto X9.her hx rfl (pc0 := 48) (pc' := 52) rfl (hb hby at_48) (by decide) (by decide) k) ?_
    refine own_retN (t := .boolean) X9 hx hret hlk (by simp) (hb hby at_52) (by first | decide | omega) (by first | decide | omega) ?_
    exact congrArg (fun q => some (Value.int q)) (by decide)
  · refine own_st (f' := (mkF m 16 #[.val (.int p0), .val (.int (p0.toInt8.toInt32)), .val (.int (p0.toInt8.toInt32)), .unset] [])) (fun t k => XS.ifYes X0.her hx rfl (pc0 := 6) (pc' := 16) rfl (hb hby at_6) rfl ((if0 _ _).trans (flt hc7).2.1) (by decide) (by decide) k) ?_
    refine own_st (f' := (mkF m 17 #[.val (.int p0), .val (.int (p0.toInt8.toInt32)), .val (.int (p0.toInt8.toInt32)), .unset] [(.int (p0.toInt8.toInt32))])) (fun t k => XS.iloadN X0.her hx rfl (hb hby at_16) rfl k) ?_
    refine own_st (f' := (mkF m 19 #[.val (.int p0), .val (.int (p0.toInt8.toInt32)), .val (.int (p0.toInt8.toInt32)), .unset] [(.int (32 : Int32)), (.int (p0.toInt8.toInt32))])) (fun t k => XS.bipush X0.her hx rfl (hb hby at_17) k) ?_
    by_cases hc10 : (32 : Int32) < (p0.toInt8.toInt32)
    · refine own_st (f' := (mkF m 22 #[.val (.int p0), .val (.int (p0.toInt8.toInt32)), .val (.int (p0.toInt8.toInt32)), .unset] [])) (fun t k => XS.icmpNo X0.her hx rfl (hb hby at_19) rfl (tlt hc10).2.2.2 k) ?_
      refine own_st (f' := (mkF m 23 #[.val (.int p0), .val (.int (p0.toInt8.toInt32)), .val (.int (p0.toInt8.toInt32)), .unset] [(.int (p0.toInt8.toInt32))])) (fun t k => XS.iloadN X0.her hx rfl (hb hby at_22) rfl k) ?_
      refine own_st (f' := (mkF m 25 #[.val (.int p0), .val (.int (p0.toInt8.toInt32)), .val (.int (p0.toInt8.toInt32)), .unset] [(.int (127 : Int32)), (.int (p0.toInt8.toInt32))])) (fun t k => XS.bipush X0.her hx rfl (hb hby at_23) k) ?_
      by_cases hc11 : (p0.toInt8.toInt32) = (127 : Int32)
      · refine own_st (f' := (mkF m 28 #[.val (.int p0), .val (.int (p0.toInt8.toInt32)), .val (.int (p0.toInt8.toInt32)), .unset] [])) (fun t k => XS.icmpNo X0.her hx rfl (hb hby at_25) rfl (teq hc11).2 k) ?_
        refine own_getS X0 hx hZ hown (own_w0 hw) SvN (hb hby at_28) ?_
        intro T12 X12
        refine own_st (f' := (mkF m 32 #[.val (.int p0), .val (.int (p0.toInt8.toInt32)), .val (.int (p0.toInt8.toInt32)), .val (.ref vN)] [])) (fun t k => XS.astoreN X12.her hx rfl (hb hby at_31) rfl rfl (l' := #[.val (.int p0), .val (.int (p0.toInt8.toInt32)), .val (.int (p0.toInt8.toInt32)), .val (.ref vN)]) rfl k) ?_
        refine own_st (f' := (mkF m 39 #[.val (.int p0), .val (.int (p0.toInt8.toInt32)), .val (.int (p0.toInt8.toInt32)), .val (.ref vN)] [])) (fun t k => XS.goto X12.her hx rfl (pc0 := 32) (pc' := 39) rfl (hb hby at_32) (by decide) (by decide) k) ?_
        refine own_st (f' := (mkF m 40 #[.val (.int p0), .val (.int (p0.toInt8.toInt32)), .val (.int (p0.toInt8.toInt32)), .val (.ref vN)] [(.int (p0.toInt8.toInt32))])) (fun t k => XS.iloadN X12.her hx rfl (hb hby at_39) rfl k) ?_
        refine own_callSP (y := (⟨"com/example/studyferry/studyferry/dicom/IsoIrSet$Register", "reading", "(B)Lcom/example/studyferry/studyferry/dicom/IsoIrSet$Register;"⟩ : MethodName)) (W := 0) [(.int (p0.toInt8.toInt32))] X12 hx hZ hown (own_w3 hw) (own_w4 hw) (own_w1 hw) (own_w5 hw) (by decide) (own_c1 l Z a0 hw h0 n0 Z0 (p0.toInt8.toInt32) vN v0 v1 SvN Sv0 Sv1) (by decide) (by decide) (by decide) (by decide) (by rw [hml]; rfl) own_pd0 rfl rfl (Nat.le_of_eq rfl) (hb hby at_40) ?_
        intro T13 X13
        show own_G p e below _ T13 (mkF m 43 #[.val (.int p0), .val (.int (p0.toInt8.toInt32)), .val (.int (p0.toInt8.toInt32)), .val (.ref vN)] [(.ref (own_F1 (p0.toInt8.toInt32) vN v0 v1))])
        refine own_st (f' := (mkF m 44 #[.val (.int p0), .val (.int (p0.toInt8.toInt32)), .val (.int (p0.toInt8.toInt32)), .val (.ref vN)] [(.ref vN), (.ref (own_F1 (p0.toInt8.toInt32) vN v0 v1))])) (fun t k => XS.aloadN X13.her hx rfl (hb hby at_43) rfl rfl k) ?_
        obtain ⟨⟨locs_, Y_, N_⟩, eh_, Kp_⟩ := id X13
        refine own_st (f' := (mkF m 47 #[.val (.int p0), .val (.int (p0.toInt8.toInt32)), .val (.int (p0.toInt8.toInt32)), .val (.ref vN)] [])) (fun t k => Jvm.RoadKit.acmp (g := (mkF m 44 #[.val (.int p0), .val (.int (p0.toInt8.toInt32)), .val (.int (p0.toInt8.toInt32)), .val (.ref vN)] [(.ref vN), (.ref (own_F1 (p0.toInt8.toInt32) vN v0 v1))])) Y_ hx rfl rfl rfl (pc0 := 44) (pc' := 47) (same := true) rfl (hb hby at_44) rfl (decide_eq_true (congrArg Value.ref (own_r3 _ _ _ _ hc11))) (by decide) (by decide) k) ?_
        refine own_st (f' := (mkF m 48 #[.val (.int p0), .val (.int (p0.toInt8.toInt32)), .val (.int (p0.toInt8.toInt32)), .val (.ref vN)] [(.int (1 : Int32))])) (fun t k => XS.iconst X13.her hx rfl (hb hby at_47) k) ?_
        refine own_st (f' := (mkF m 52 #[.val (.int p0), .val (.int (p0.toInt8.toInt32)), .val (.int (p0.toInt8.toInt32)), .val (.ref vN)] [(.int (1 : Int32))])) (fun t k => XS.goto X13.her hx rfl (pc0 := 48) (pc' := 52) rfl (hb hby at_48) (by decide) (by decide) k) ?_
        refine own_retN (t := .boolean) X13 hx hret hlk (by simp) (hb hby at_52) (by first | decide | omega) (by first | decide | omega) ?_
        exact congrArg (fun q => some (Value.int q)) (by decide)
      · refine own_st (f' := (mkF m 35 #[.val (.int p0), .val (.int (p0.toInt8.toInt32)), .val (.int (p0.toInt8.toInt32)), .unset] [])) (fun t k => XS.icmpYes X0.her hx rfl (pc0 := 25) (pc' := 35) rfl (hb hby at_25) rfl (feq hc11).2 (by decide) (by decide) k) ?_
        refine own_getS X0 hx hZ hown (own_w7 hw) Sv0 (hb hby at_35) ?_
        intro T14 X14
        refine own_st (f' := (mkF m 39 #[.val (.int p0), .val (.int (p0.toInt8.toInt32)), .val (.int (p0.toInt8.toInt32)), .val (.ref v0)] [])) (fun t k => XS.astoreN X14.her hx rfl (hb hby at_38) rfl rfl (l' := #[.val (.int p0), .val (.int (p0.toInt8.toInt32)), .val (.int (p0.toInt8.toInt32)), .val (.ref v0)]) rfl k) ?_
        refine own_st (f' := (mkF m 40 #[.val (.int p0), .val (.int (p0.toInt8.toInt32)), .val (.int (p0.toInt8.toInt32)), .val (.ref v0)] [(.int (p0.toInt8.toInt32))])) (fun t k => XS.iloadN X14.her hx rfl (hb hby at_39) rfl k) ?_
        refine own_callSP (y := (⟨"com/example/studyferry/studyferry/dicom/IsoIrSet$Register", "reading", "(B)Lcom/example/studyferry/studyferry/dicom/IsoIrSet$Register;"⟩ : MethodName)) (W := 0) [(.int (p0.toInt8.toInt32))] X14 hx hZ hown (own_w3 hw) (own_w4 hw) (own_w1 hw) (own_w5 hw) (by decide) (own_c1 l Z a0 hw h0 n0 Z0 (p0.toInt8.toInt32) vN v0 v1 SvN Sv0 Sv1) (by decide) (by decide) (by decide) (by decide) (by rw [hml]; rfl) own_pd0 rfl rfl (Nat.le_of_eq rfl) (hb hby at_40) ?_
        intro T15 X15
        show own_G p e below _ T15 (mkF m 43 #[.val (.int p0), .val (.int (p0.toInt8.toInt32)), .val (.int (p0.toInt8.toInt32)), .val (.ref v0)] [(.ref (own_F1 (p0.toInt8.toInt32) vN v0 v1))])
        refine own_st (f' := (mkF m 44 #[.val (.int p0), .val (.int (p0.toInt8.toInt32)), .val (.int (p0.toInt8.toInt32)), .val (.ref v0)] [(.ref v0), (.ref (own_F1 (p0.toInt8.toInt32) vN v0 v1))])) (fun t k => XS.aloadN X15.her hx rfl (hb hby at_43) rfl rfl k) ?_
        obtain ⟨⟨locs_, Y_, N_⟩, eh_, Kp_⟩ := id X15
        refine own_st (f' := (mkF m 47 #[.val (.int p0), .val (.int (p0.toInt8.toInt32)), .val (.int (p0.toInt8.toInt32)), .val (.ref v0)] [])) (fun t k => Jvm.RoadKit.acmp (g := (mkF m 44 #[.val (.int p0), .val (.int (p0.toInt8.toInt32)), .val (.int (p0.toInt8.toInt32)), .val (.ref v0)] [(.ref v0), (.ref (own_F1 (p0.toInt8.toInt32) vN v0 v1))])) Y_ hx rfl rfl rfl (pc0 := 44) (pc' := 47) (same := true) rfl (hb hby at_44) rfl (decide_eq_true (congrArg Value.ref (own_r4 _ _ _ _ (own_bb _) hc7 hc10 hc11))) (by decide) (by decide) k) ?_
        refine own_st (f' := (mkF m 48 #[.val (.int p0), .val (.int (p0.toInt8.toInt32)), .val (.int (p0.toInt8.toInt32)), .val (.ref v0)] [(.int (1 : Int32))])) (fun t k => XS.iconst X15.her hx rfl (hb hby at_47) k) ?_
        refine own_st (f' := (mkF m 52 #[.val (.int p0), .val (.int (p0.toInt8.toInt32)), .val (.int (p0.toInt8.toInt32)), .val (.ref v0)] [(.int (1 : Int32))])) (fun t k => XS.goto X15.her hx rfl (pc0 := 48) (pc' := 52) rfl (hb hby at_48) (by decide) (by decide) k) ?_
        refine own_retN (t := .boolean) X15 hx hret hlk (by simp) (hb hby at_52) (by first | decide | omega) (by first | decide | omega) ?_
        exact congrArg (fun q => some (Value.int q)) (by decide)
    · refine own_st (f' := (mkF m 28 #[.val (.int p0), .val (.int (p0.toInt8.toInt32)), .val (.int (p0.toInt8.toInt32)), .unset] [])) (fun t k => XS.icmpYes X0.her hx rfl (pc0 := 19) (pc' := 28) rfl (hb hby at_19) rfl (flt hc10).2.2.2 (by decide) (by decide) k) ?_
      refine own_getS X0 hx hZ hown (own_w0 hw) SvN (hb hby at_28) ?_
      intro T16 X16
      refine own_st (f' := (mkF m 32 #[.val (.int p0), .val (.int (p0.toInt8.toInt32)), .val (.int (p0.toInt8.toInt32)), .val (.ref vN)] [])) (fun t k => XS.astoreN X16.her hx rfl (hb hby at_31) rfl rfl (l' := #[.val (.int p0), .val (.int (p0.toInt8.toInt32)), .val (.int (p0.toInt8.toInt32)), .val (.ref vN)]) rfl k) ?_
      refine own_st (f' := (mkF m 39 #[.val (.int p0), .val (.int (p0.toInt8.toInt32)), .val (.int (p0.toInt8.toInt32)), .val (.ref vN)] [])) (fun t k => XS.goto X16.her hx rfl (pc0 := 32) (pc' := 39) rfl (hb hby at_32) (by decide) (by decide) k) ?_
      refine own_st (f' := (mkF m 40 #[.val (.int p0), .val (.int (p0.toInt8.toInt32)), .val (.int (p0.toInt8.toInt32)), .val (.ref vN)] [(.int (p0.toInt8.toInt32))])) (fun t k => XS.iloadN X16.her hx rfl (hb hby at_39) rfl k) ?_
      refine own_callSP (y := (⟨"com/example/studyferry/studyferry/dicom/IsoIrSet$Register", "reading", "(B)Lcom/example/studyferry/studyferry/dicom/IsoIrSet$Register;"⟩ : MethodName)) (W := 0) [(.int (p0.toInt8.toInt32))] X16 hx hZ hown (own_w3 hw) (own_w4 hw) (own_w1 hw) (own_w5 hw) (by decide) (own_c1 l Z a0 hw h0 n0 Z0 (p0.toInt8.toInt32) vN v0 v1 SvN Sv0 Sv1) (by decide) (by decide) (by decide) (by decide) (by rw [hml]; rfl) own_pd0 rfl rfl (Nat.le_of_eq rfl) (hb hby at_40) ?_
      intro T17 X17
      show own_G p e below _ T17 (mkF m 43 #[.val (.int p0), .val (.int (p0.toInt8.toInt32)), .val (.int (p0.toInt8.toInt32)), .val (.ref vN)] [(.ref (own_F1 (p0.toInt8.toInt32) vN v0 v1))])
      refine own_st (f' := (mkF m 44 #[.val (.int p0), .val (.int (p0.toInt8.toInt32)), .val (.int (p0.toInt8.toInt32)), .val (.ref vN)] [(.ref vN), (.ref (own_F1 (p0.toInt8.toInt32) vN v0 v1))])) (fun t k => XS.aloadN X17.her hx rfl (hb hby at_43) rfl rfl k) ?_
      obtain ⟨⟨locs_, Y_, N_⟩, eh_, Kp_⟩ := id X17
      refine own_st (f' := (mkF m 47 #[.val (.int p0), .val (.int (p0.toInt8.toInt32)), .val (.int (p0.toInt8.toInt32)), .val (.ref vN)] [])) (fun t k => Jvm.RoadKit.acmp (g := (mkF m 44 #[.val (.int p0), .val (.int (p0.toInt8.toInt32)), .val (.int (p0.toInt8.toInt32)), .val (.ref vN)] [(.ref vN), (.ref (own_F1 (p0.toInt8.toInt32) vN v0 v1))])) Y_ hx rfl rfl rfl (pc0 := 44) (pc' := 47) (same := true) rfl (hb hby at_44) rfl (decide_eq_true (congrArg Value.ref (own_r2 _ _ _ _ (own_bb _) hc7 hc10))) (by decide) (by decide) k) ?_
      refine own_st (f' := (mkF m 48 #[.val (.int p0), .val (.int (p0.toInt8.toInt32)), .val (.int (p0.toInt8.toInt32)), .val (.ref vN)] [(.int (1 : Int32))])) (fun t k => XS.iconst X17.her hx rfl (hb hby at_47) k) ?_
      refine own_st (f' := (mkF m 52 #[.val (.int p0), .val (.int (p0.toInt8.toInt32)), .val (.int (p0.toInt8.toInt32)), .val (.ref vN)] [(.int (1 : Int32))])) (fun t k => XS.goto X17.her hx rfl (pc0 := 48) (pc' := 52) rfl (hb hby at_48) (by decide) (by decide) k) ?_
      refine own_retN (t := .boolean) X17 hx hret hlk (by simp) (hb hby at_52) (by first | decide | omega) (by first | decide | omega) ?_
      exact congrArg (fun q => some (Value.int q)) (by decide)
set_option maxRecDepth 65536 in
set_option maxHeartbeats 40000000 in
theorem own_comes {Post : Tables → Env → Array Value → State → Outcome → State → Prop} (hpost : ∀ tb e args s v u, (limb_1_1.after args s (.returned v) u = true ∧ limb_1_2.after args s (.returned v) u = true) → FrameEnd s (.returned v) u (Jvm.fieldLocs frame_1_writes args s ++ Jvm.arrayLocs frame_1_arrays args s ++ Jvm.staticLocs frame_1_statics s) 0 0 → Post tb e args s (.returned v) u) :
    ArmFor flags0 classFile x code maxLocals ret World_1 tables_1 room_1 Calls_1 rest_1 Pre_1 Post := by
  intro l hfl _ _ p e ha hc hk s m args below hf hA hF happ hP
  obtain ⟨hcalls, hrest, hpre⟩ := hP
  obtain ⟨-, -, -, hnamed, -, -, -, hat⟩ := (Spec.applies_iff hf).mp happ
  obtain ⟨hg, hn⟩ := and_e (Cond.before_iff.mp (show (Jvm.Cond.and given_1 narrow_1).before args s = true from hpre))
  obtain ⟨g18, g19⟩ := and_e hg
  obtain ⟨w0, rfl⟩ : ∃ w0 : Value, args = #[w0] := by
    have hs : args.size = 1 := by simpa [Cond.value, given_1] using g18
    obtain ⟨L⟩ := args
    match L, hs with
    | [w0], _ => exact ⟨w0, rfl⟩
  have hw := fun d (hd : d ∈ tables_1) => atoms_spec (ws := Jvm.Cond.code x code maxLocals ret :: tables_1) hat d (List.mem_cons_of_mem _ hd)
  obtain ⟨i0, ei0⟩ := is_v g19
  obtain rfl : w0 = (.int i0) := Option.some.inj ei0
  obtain ⟨n1, n2⟩ := and_e hn
  obtain ⟨n3, n4⟩ := and_e n2
  obtain ⟨vN, eN⟩ := exa_v n1
  obtain ⟨v0, e0⟩ := exa_v n3
  obtain ⟨v1, e1⟩ := exa_v n4
  have SN := Sta.start eN (Or.inr ⟨own_w1 hw, own_w2 hw⟩)
  have S0 := Sta.start e0 (Or.inr ⟨own_w1 hw, own_w8 hw⟩)
  have S1 := Sta.start e1 (Or.inr ⟨own_w1 hw, own_w11 hw⟩)
  obtain ⟨n, o, h1, h2, h3, v, L, rfl, ⟨N, -, hv⟩, hq⟩ := own_c0 l s _ hw s.heap s.heap.size (Nat.le_refl _) i0 vN v0 v1 SN S0 S1 p e ha hc hk s m _ below hf ((Spec.applies_iff_loose hf).mp happ).1 ⟨rfl, State.Warmed39.refl s, rfl⟩ trivial
  obtain rfl : v = some (.int 1) := hv
  refine ⟨n, _, h1, h2, h3, hpost _ _ _ _ _ _ ⟨Cond.after_iff.mpr rfl, Cond.after_iff.mpr (eq_i res_at (Term.int_eval (1)) rfl)⟩ ⟨hq.1, hq.2.1, (hq.2.2.sift fun y hy => Or.inr (N y hy)).mono (by decide) (by decide)⟩⟩
theorem main_1_1 : Claimed_1_1 := own_comes fun _ _ _ _ _ _ h hF => ⟨h.1, hF⟩
theorem main_1_2 : Claimed_1_2 := own_comes fun _ _ _ _ _ _ h hF => ⟨h.2, hF⟩
end Jvm.Pilot.@@N@@
namespace Jvm.Pilot.@@N@@
open Jvm Jvm.ClassFile Sem Op Lib Jvm.Free Jvm.Stand Jvm.Pilot.@@N@@.Jvm.D
/-! MADE BY PROGRAM (witnessworld.py) out of the Statement's table words and the real class files: 12 classes; the members and pool entries that the words name. The judged class is class 1, her method 1. -/
namespace start1
open Jvm.ClassFile
def u (s : String) : CpInfo := .utf8 (stringToUtf16 s)
/-- a pool by its gaps: so many unusable entries, then the entry; so many at the end -/
def gap : Nat → List CpInfo → List CpInfo
  | 0, r => r
  | n + 1, r => .unusable :: gap n r
def poolList (es : List (Nat × CpInfo)) (last : Nat) : List CpInfo := es.foldr (fun e r => gap e.1 (e.2 :: r)) (gap last [])
def pool (es : List (Nat × CpInfo)) (last : Nat) : Array CpInfo := ⟨poolList es last⟩
def fileOf (pool : Array CpInfo) (this : Nat) (attrs : Array Attribute := #[]) (ms : Array MethodInfo := #[]) (fl : Nat := 33) (sup : Nat := 0) (ifs : Array Nat := #[]) (fds : Array FieldInfo := #[]) : ClassFile where
  minorVersion := 0
  majorVersion := 65
  constantPool := pool
  accessFlags := fl
  thisClass := this
  superClass := sup
  interfaces := ifs
  fields := fds
  methods := ms
  attributes := attrs
def plain (name : String) (sup : Option ClassId) : Class where
  name := name
  kind := .ordinary
  loader := none
  accessFlags := 33
  super := sup
  interfaces := #[]
  cf := none
  fields := #[]
  methods := #[]
  instanceTypes := #[]
  staticTypes := #[]
  resolved := #[]
  callSites := []
  init := .initialized
  statics := none
  mirror := none

def pool0 : Array CpInfo := pool [(5, u "<init>"), (0, u "()V"), (1, .class_ 10), (1, u "java/lang/Object")] 113

def k0m0 : Method := { name := "<init>", desc := "()V", sig := { parameters := [], returnType := none }, accessFlags := 1, code := none }
/-- java/lang/Object -/
def k0 : Class := { plain "java/lang/Object" none with
  accessFlags := 33
  interfaces := #[]
  cf := some (fileOf pool0 8 #[] #[{ accessFlags := 1, nameIndex := 5, descriptorIndex := 6, attributes := #[] }] 33 0 #[] #[])
  fields := #[]
  methods := #[k0m0]
  instanceTypes := #[]
  staticTypes := #[]
  resolved := Array.replicate 124 none
  statics := none }

def pool1 : Array CpInfo := pool [(2, .class_ 4), (1, u "java/lang/Object"), (0, u "<init>"), (0, u "()V"), (0, .fieldref 8 9), (0, .class_ 10), (0, .nameAndType 11 12), (0, u "com/example/studyferry/studyferry/dicom/IsoIrSet$Register"), (0, u "G1"), (0, u "Lcom/example/studyferry/studyferry/dicom/IsoIrSet$Register;"), (0, .fieldref 8 14), (0, .nameAndType 15 12), (0, u "NONE"), (0, .fieldref 8 17), (0, .nameAndType 18 12), (0, u "G0"), (0, .methodref 8 20), (0, .nameAndType 21 22), (0, u "reading"), (0, u "(B)Lcom/example/studyferry/studyferry/dicom/IsoIrSet$Register;"), (0, .class_ 24), (0, u "com/example/studyferry/studyferry/dicom/RegisterReadingPinLaw"), (2, u "law"), (0, u "(I)Z")] 7

def k1m0 : Method := { name := "<init>", desc := "()V", sig := { parameters := [], returnType := none }, accessFlags := 2, code := none }
def k1c1 : Code := { maxStack := 2, maxLocals := 4, code := code, exceptionTable := #[], attributes := #[] }
def k1m1 : Method := { name := "law", desc := "(I)Z", sig := { parameters := [.int], returnType := some .boolean }, accessFlags := 9, code := some k1c1 }
/-- com/example/studyferry/studyferry/dicom/RegisterReadingPinLaw -/
def k1 : Class := { plain "com/example/studyferry/studyferry/dicom/RegisterReadingPinLaw" (some 0) with
  accessFlags := 49
  interfaces := #[]
  cf := some (fileOf pool1 23 #[] #[{ accessFlags := 2, nameIndex := 5, descriptorIndex := 6, attributes := #[] }, { accessFlags := 9, nameIndex := 27, descriptorIndex := 28, attributes := #[] }] 49 2 #[] #[])
  fields := #[]
  methods := #[k1m0, k1m1]
  instanceTypes := #[]
  staticTypes := #[]
  resolved := Array.replicate 36 none
  statics := none }

def pool2 : Array CpInfo := pool [(1, .class_ 2), (0, u "java/lang/constant/Constable"), (0, .class_ 4), (0, u "java/lang/Object")] 6

/-- java/lang/constant/Constable -/
def k2 : Class := { plain "java/lang/constant/Constable" (some 0) with
  accessFlags := 1537
  interfaces := #[]
  cf := some (fileOf pool2 1 #[] #[] 1537 3 #[] #[])
  fields := #[]
  methods := #[]
  instanceTypes := #[]
  staticTypes := #[]
  resolved := Array.replicate 11 none
  statics := none }

def pool3 : Array CpInfo := pool [(1, .class_ 2), (0, u "java/lang/Comparable"), (0, .class_ 4), (0, u "java/lang/Object")] 7

/-- java/lang/Comparable -/
def k3 : Class := { plain "java/lang/Comparable" (some 0) with
  accessFlags := 1537
  interfaces := #[]
  cf := some (fileOf pool3 1 #[] #[] 1537 3 #[] #[])
  fields := #[]
  methods := #[]
  instanceTypes := #[]
  staticTypes := #[]
  resolved := Array.replicate 12 none
  statics := none }

def pool4 : Array CpInfo := pool [(1, .class_ 2), (0, u "java/io/Serializable"), (0, .class_ 4), (0, u "java/lang/Object")] 2

/-- java/io/Serializable -/
def k4 : Class := { plain "java/io/Serializable" (some 0) with
  accessFlags := 1537
  interfaces := #[]
  cf := some (fileOf pool4 1 #[] #[] 1537 3 #[] #[])
  fields := #[]
  methods := #[]
  instanceTypes := #[]
  staticTypes := #[]
  resolved := Array.replicate 7 none
  statics := none }

def pool5 : Array CpInfo := pool [(2, .class_ 4), (1, u "java/lang/Enum"), (0, u "name"), (0, u "Ljava/lang/String;"), (2, u "ordinal"), (0, u "I"), (1, .class_ 14), (1, u "java/lang/Object"), (4, u "hash"), (86, .class_ 108), (1, u "java/lang/Enum$EnumDesc"), (2, .class_ 112), (0, u "java/lang/constant/Constable"), (0, .class_ 114), (0, u "java/lang/Comparable"), (0, .class_ 116), (0, u "java/io/Serializable")] 87

/-- java/lang/Enum -/
def k5 : Class := { plain "java/lang/Enum" (some 0) with
  accessFlags := 1057
  interfaces := #[2, 3, 4]
  cf := some (fileOf pool5 2 #[.nestMembers #[106]] #[] 1057 12 #[111, 113, 115] #[{ accessFlags := 18, nameIndex := 5, descriptorIndex := 6, attributes := #[] }, { accessFlags := 18, nameIndex := 9, descriptorIndex := 10, attributes := #[] }, { accessFlags := 2, nameIndex := 19, descriptorIndex := 10, attributes := #[] }])
  fields := #[{ name := "name", type := (.object "java/lang/String"), accessFlags := 18, slot := 0, constantValue := 0 }, { name := "ordinal", type := .int, accessFlags := 18, slot := 1, constantValue := 0 }, { name := "hash", type := .int, accessFlags := 2, slot := 2, constantValue := 0 }]
  methods := #[]
  instanceTypes := #[(.object "java/lang/String"), .int, .int]
  staticTypes := #[]
  resolved := Array.replicate 204 none
  statics := none }

def pool6 : Array CpInfo := pool [(1, .class_ 2), (0, u "com/example/studyferry/studyferry/dicom/IsoIrSet$Register"), (0, .fieldref 1 4), (0, .nameAndType 5 6), (0, u "G0"), (0, u "Lcom/example/studyferry/studyferry/dicom/IsoIrSet$Register;"), (0, .fieldref 1 8), (0, .nameAndType 9 6), (0, u "G1"), (0, .fieldref 1 11), (0, .nameAndType 12 6), (0, u "NONE"), (2, u "$VALUES"), (0, u "[Lcom/example/studyferry/studyferry/dicom/IsoIrSet$Register;"), (6, .class_ 25), (1, u "java/lang/Enum"), (54, u "reading"), (0, u "(B)Lcom/example/studyferry/studyferry/dicom/IsoIrSet$Register;"), (7, .class_ 90), (0, u "com/example/studyferry/studyferry/dicom/IsoIrSet")] 2

def k6c0 : Code := { maxStack := 2, maxLocals := 3, code := prog_28_method_4_code, exceptionTable := #[], attributes := #[] }
def k6m0 : Method := { name := "reading", desc := "(B)Lcom/example/studyferry/studyferry/dicom/IsoIrSet$Register;", sig := { parameters := [.byte], returnType := some (.object "com/example/studyferry/studyferry/dicom/IsoIrSet$Register") }, accessFlags := 8, code := some k6c0 }
/-- com/example/studyferry/studyferry/dicom/IsoIrSet$Register -/
def k6 : Class := { plain "com/example/studyferry/studyferry/dicom/IsoIrSet$Register" (some 5) with
  accessFlags := 16432
  interfaces := #[]
  cf := some (fileOf pool6 1 #[.nestHost 89] #[{ accessFlags := 8, nameIndex := 80, descriptorIndex := 81, attributes := #[] }] 16432 23 #[] #[{ accessFlags := 16409, nameIndex := 5, descriptorIndex := 6, attributes := #[] }, { accessFlags := 16409, nameIndex := 9, descriptorIndex := 6, attributes := #[] }, { accessFlags := 16409, nameIndex := 12, descriptorIndex := 6, attributes := #[] }, { accessFlags := 4122, nameIndex := 15, descriptorIndex := 16, attributes := #[] }])
  fields := #[{ name := "G0", type := (.object "com/example/studyferry/studyferry/dicom/IsoIrSet$Register"), accessFlags := 16409, slot := 0, constantValue := 0 }, { name := "G1", type := (.object "com/example/studyferry/studyferry/dicom/IsoIrSet$Register"), accessFlags := 16409, slot := 1, constantValue := 0 }, { name := "NONE", type := (.object "com/example/studyferry/studyferry/dicom/IsoIrSet$Register"), accessFlags := 16409, slot := 2, constantValue := 0 }, { name := "$VALUES", type := (.array (.object "com/example/studyferry/studyferry/dicom/IsoIrSet$Register")), accessFlags := 4122, slot := 3, constantValue := 0 }]
  methods := #[k6m0]
  instanceTypes := #[(.object "java/lang/String"), .int, .int]
  staticTypes := #[(.object "com/example/studyferry/studyferry/dicom/IsoIrSet$Register"), (.object "com/example/studyferry/studyferry/dicom/IsoIrSet$Register"), (.object "com/example/studyferry/studyferry/dicom/IsoIrSet$Register"), (.array (.object "com/example/studyferry/studyferry/dicom/IsoIrSet$Register"))]
  resolved := Array.replicate 93 none
  statics := some 0 }

def pool7 : Array CpInfo := pool [(1, u "java/lang/Cloneable"), (0, .class_ 1), (0, u "java/lang/Object"), (0, .class_ 3)] 3

/-- java/lang/Cloneable -/
def k7 : Class := { plain "java/lang/Cloneable" (some 0) with
  accessFlags := 1537
  interfaces := #[]
  cf := some (fileOf pool7 2 #[] #[] 1537 4 #[] #[])
  fields := #[]
  methods := #[]
  instanceTypes := #[]
  staticTypes := #[]
  resolved := Array.replicate 8 none
  statics := none }

/-- the primitive byte -/
def k8 : Class := { plain "byte" none with kind := .primitive 'B', accessFlags := 0x411 }
/-- [B -/
def k9 : Class := { plain "[B" (some 0) with kind := .array 8 .byte, interfaces := #[7, 4], accessFlags := 1041 }

/-- the primitive int -/
def k10 : Class := { plain "int" none with kind := .primitive 'I', accessFlags := 0x411 }
/-- [I -/
def k11 : Class := { plain "[I" (some 0) with kind := .array 10 .int, interfaces := #[7, 4], accessFlags := 1041 }

def heap : Heap := #[{ cls := 6, slots := #[.ref 2, .ref 3, .ref 1, .null], vm := .statics 6 },
  { cls := 6, slots := #[.null, .int 0, .int 0], vm := .none },
  { cls := 6, slots := #[.null, .int 0, .int 0], vm := .none },
  { cls := 6, slots := #[.null, .int 0, .int 0], vm := .none }]
def classes : Array Class := #[k0, k1, k2, k3, k4, k5, k6, k7, k8, k9, k10, k11]
def interned : List (Array UInt16 × Addr) := []
def slotsUsed : Nat := 13
def theMethod : MethodId := ⟨1, 1⟩
def args0 : Array Value := #[.int 7]
def aboutOver (below : List Frame) : State where
  vm := { classes := classes, interned := interned.toArray }
  heap := heap
  slotsUsed := slotsUsed
  threads := #[{ frames := .invoking theMethod args0 :: below }]
def below0 : List Frame := [.native { method := ⟨0, 0⟩, args := #[] }]
def about1 : State := aboutOver below0
def p0 : Program := .bare "" "" ""
def e0 : Env := launch0.env 0 0 0
theorem w_frames : about1.frames = Frame.invoking theMethod args0 :: below0 := rfl
set_option maxRecDepth 65536 in
theorem w_args : argsFit about1.vm theMethod args0 = true := by decide +kernel
set_option maxRecDepth 65536 in
theorem w_heap : heapFits about1 = true := by decide +kernel
set_option maxRecDepth 65536 in
theorem w_runnable : about1.curStatus? = some .runnable := by decide +kernel
set_option maxRecDepth 65536 in
theorem w_alone : about1.alone = true := by decide +kernel
set_option maxRecDepth 65536 in
theorem w_named : about1.methodNamed? x = some theMethod := by decide +kernel
set_option maxRecDepth 65536 in
theorem w_hears : about1.hears theMethod below0 = true := by decide +kernel
set_option maxRecDepth 65536 in
theorem w_ripe : about1.ripe theMethod args0 below0 = true := by decide +kernel
theorem w_running : about1.status = .running := rfl
set_option maxRecDepth 65536 in
theorem w_room : about1.hasRoom e0.platform room_1 = true :=
  launch0.hasRoom_least _ room_1 (by decide +kernel) (by decide +kernel) (by decide +kernel) (by decide +kernel) (by decide +kernel) (by decide +kernel)
theorem allAtoms_all (ts : List Jvm.Cond) (a : Array Jvm.Value) (st : Jvm.State) : (allAtoms ts).before a st = ts.all (fun c => c.before a st) := by
  induction ts with
  | nil => rfl
  | cons c t ih =>
    show (Jvm.Cond.and c (allAtoms t)).before a st = _
    rw [Jvm.Cond.before_and, ih, List.all_cons]
def words1 : List Jvm.Cond := Jvm.Cond.code x code maxLocals ret :: tables_1
/-- a 'code' word, met by the world's own term for the bytes: nothing is compared byte by byte -/
theorem code_word {y : MethodName} {bytes : ByteArray} {mx : Nat} {rt : Option FieldType} {a : Array Value} {s : State} {m : MethodId} {meth : Method} {c : Code} (h1 : s.methodNamed? y = some m) (h2 : s.vm.method? m = some meth) (h3 : meth.code = some c) (h4 : c.code = bytes)
    (h5 : (c.maxLocals == mx && c.exceptionTable.isEmpty && decide (c.maxStack ≤ mostOperands) && decide (meth.sig.returnType = rt) && !meth.locks && decide (parseMethodDescriptor y.desc = some meth.sig)) = true) : (Jvm.Cond.code y bytes mx rt).before a s = true := by
  simp only [Bool.and_eq_true, beq_iff_eq, Bool.not_eq_true', decide_eq_true_eq] at h5
  obtain ⟨⟨⟨⟨⟨g1, g2⟩, g3⟩, g4⟩, g5⟩, g6⟩ := h5
  simp [Cond.before, Cond.holds, Cond.value, h1, h2, h3, h4, g1, g2, g3, g4, g5, g6]
def isCode : Jvm.Cond → Bool
  | .code _ _ _ _ => true
  | _ => false
theorem all_split {L : List Jvm.Cond} {P : Jvm.Cond → Bool} (h1 : L.all (fun c => isCode c || P c) = true) (h2 : ∀ c ∈ L.filter isCode, P c = true) : L.all P = true := by
  refine List.all_eq_true.mpr fun c hc => ?_
  have h := List.all_eq_true.mp h1 c hc
  rcases Bool.eq_false_or_eq_true (isCode c) with hi | hi
  · exact h2 c (List.mem_filter.mpr ⟨hc, hi⟩)
  · simpa [hi] using h
set_option maxRecDepth 65536 in
theorem w_c0 : (Jvm.Cond.code x code maxLocals ret).before args0 about1 = true := code_word (m := ⟨1, 1⟩) (meth := k1m1) (c := k1c1) (by decide +kernel) rfl rfl rfl (by decide +kernel)
set_option maxRecDepth 65536 in
theorem w_c1 : (Jvm.Cond.code ({ cls := "com/example/studyferry/studyferry/dicom/IsoIrSet$Register", name := "reading", desc := "(B)Lcom/example/studyferry/studyferry/dicom/IsoIrSet$Register;" } : Jvm.MethodName) prog_28_method_4_code (3 : Nat) (Option.some (Jvm.ClassFile.FieldType.object "com/example/studyferry/studyferry/dicom/IsoIrSet$Register"))).before args0 about1 = true := code_word (m := ⟨6, 0⟩) (meth := k6m0) (c := k6c0) (by decide +kernel) rfl rfl rfl (by decide +kernel)
def codes1 : List Jvm.Cond := [Jvm.Cond.code x code maxLocals ret, Jvm.Cond.code ({ cls := "com/example/studyferry/studyferry/dicom/IsoIrSet$Register", name := "reading", desc := "(B)Lcom/example/studyferry/studyferry/dicom/IsoIrSet$Register;" } : Jvm.MethodName) prog_28_method_4_code (3 : Nat) (Option.some (Jvm.ClassFile.FieldType.object "com/example/studyferry/studyferry/dicom/IsoIrSet$Register"))]
set_option maxRecDepth 65536 in
theorem codes_eq : words1.filter isCode = codes1 := rfl
theorem w_codes : ∀ c ∈ words1.filter isCode, c.before args0 about1 = true := by
  rw [codes_eq]
  intro c hc
  simp only [codes1, List.mem_cons, List.not_mem_nil, or_false] at hc
  rcases hc with rfl | rfl
  · exact w_c0
  · exact w_c1
set_option maxRecDepth 65536 in
theorem w_t1 : words1.all (fun c => isCode c || c.before args0 about1) = true := by decide +kernel
theorem w_tables : (allAtoms (Jvm.Cond.code x code maxLocals ret :: tables_1)).before args0 about1 = true := by
  rw [allAtoms_all]
  show words1.all (fun c => c.before args0 about1) = true
  refine all_split ?_ w_codes
  rw [w_t1]
set_option maxRecDepth 65536 in
theorem w_case : (Jvm.Cond.and given_1 narrow_1).before args0 about1 = true := by decide +kernel
theorem w_applies : (headSpec (Jvm.Cond.code x code maxLocals ret :: tables_1) room_1).applies x e0.platform about1 = true :=
  (Spec.applies_iff w_frames).mpr ⟨w_running, w_runnable, w_alone, w_named, w_hears, w_ripe, w_room, w_tables⟩
theorem atStart : AtStart classFile x code maxLocals ret World_1 tables_1 room_1 Calls_1 rest_1 Pre_1 launch0 p0 e0 about1 theMethod args0 below0 :=
  ⟨lists_1, trivial, launch0.admits_env _ _ _, launch0.least_env, fairChoices_fair.cas, fairChoices_fair.clock, w_frames, w_args, w_heap, w_applies, trivial, trivial, w_case⟩
end start1
theorem witness_1 : WitnessClaimed_1 := ⟨start1.p0, start1.e0, start1.about1, start1.theMethod, start1.args0, start1.below0, start1.atStart⟩
end Jvm.Pilot.@@N@@
