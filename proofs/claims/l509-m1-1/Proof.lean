import JvmDerived
import JvmDerived.Pilot.@@N@@Statement
import JvmDerived.Pilot.@@N@@Code
set_option linter.unusedVariables false
set_option linter.unusedSimpArgs false
@@BLOCK:NumsL.lean.txt@@
namespace Jvm.Pilot.@@N@@
open Jvm Jvm.ClassFile Sem Op Lib Jvm.Free Jvm.Stand Jvm.LawKit Jvm.RoadKit Bundle Jvm.Pilot.@@N@@.Jvm.D
section Own
variable {p : Program} {l : Launch} {e : Env} {R : Room} {s : State} {m : MethodId} {args : Array Value} {below : List Frame} {meth : Method} {c : Code} {T T' : State} {locs : List Loc} {cells slots : Nat} {Z : State} {h h' h0 : Heap} {n0 : Nat} {ws : List Addr} {a0 : Array Value}
/-- what is still to be shown: from this frame the run ends as G says -/
def own_G (p : Program) (e : Env) (below : List Frame) (G : Outcome → State → Prop) (T : State) (f : JFrame) : Prop :=
  ∃ s₂ o, Steps p.tables e below (T.setTop f) s₂ ∧ s₂.status = .running ∧ Ended s₂ below o ∧ G o s₂
theorem own_st {G : Outcome → State → Prop} {f f' : JFrame} (q : ∀ t, Steps p.tables e below (T'.setTop f') t → Steps p.tables e below (T.setTop f) t) (k : own_G p e below G T' f') : own_G p e below G T f := by
  obtain ⟨a, o, r1, r2⟩ := k
  exact ⟨a, o, q a r1, r2⟩
theorem own_cast {G : Outcome → State → Prop} {f f' : JFrame} (q : f = f') (k : own_G p e below G T f') : own_G p e below G T f := q ▸ k
def own_D (s : State) (Q : Option Value → Heap → List Loc → Prop) (C S : Nat) (o : Outcome) (U : State) : Prop := ∃ v L, o = .returned v ∧ Q v U.heap L ∧ FrameEnd s o U L C S
def own_Q (n0 : Nat) (h0 : Heap) (ws : List Addr) (P : Option Value → Heap → Prop) (v : Option Value) (h : Heap) (L : List Loc) : Prop := Fr n0 L ∧ Keep h0 h ws ∧ P v h
def own_M (l : Launch) (y : MethodName) (code : ByteArray) (maxL : Nat) (ret : Option FieldType) (wd : List Jvm.Cond) (rm : Room) (Z : State) (as : Array Value) (h0 : Heap) (Q : Option Value → Heap → List Loc → Prop) : Prop :=
  MetFree l y (head1 (Jvm.Cond.code y code maxL ret :: wd) rm) (fun a U => a = as ∧ Z.Warmed39 U.vm ∧ U.heap = h0) (fun _ _ _ _ _ => True) (fun _ U o U' => ∃ v L, o = .returned v ∧ Q v U'.heap L ∧ FrameEnd U o U' L rm.cells rm.slots)
/-- where the walk stands: nothing old but ws was written -/
def own_S (p : Program) (l : Launch) (e : Env) (R : Room) (s : State) (m : MethodId) (args : Array Value) (below : List Frame) (meth : Method) (c : Code) (n0 : Nat) (h0 : Heap) (ws : List Addr) (T : State) (h : Heap) (cells slots : Nat) : Prop :=
  (∃ locs, Stand p l e R s m args below meth c T locs cells slots ∧ Fr n0 locs) ∧ T.heap = h ∧ Keep h0 h ws
theorem own_S.her (X : own_S p l e R s m args below meth c n0 h0 ws T h cells slots) : At T m c below := by
  obtain ⟨⟨_, X, _⟩, _⟩ := X; exact X.here
theorem own_body {y : MethodName} {code : ByteArray} {maxL : Nat} {ret : Option FieldType} {wd : List Jvm.Cond} {rm : Room} {as : Array Value} {P : Option Value → Heap → Prop} (hy : plainFor y = true)
    (B : ∀ (p : Program) (e : Env) (s : State) (m : MethodId) (below : List Frame) (meth : Method) (c : Code) (T : State), own_S p l e rm s m as below meth c n0 h0 ws T h0 0 0 → p.tables.exec = Jvm.exec → c.code = code → c.maxLocals = maxL → s.vm.findClass y.cls = some m.cls → meth.name = y.name → meth.sig.returnType = ret → meth.locks = false → Z.Warmed39 s.vm →
      own_G p e below (own_D s (own_Q n0 h0 ws P) rm.cells rm.slots) T (entryFrame m as maxL)) :
    own_M l y code maxL ret wd rm Z as h0 (own_Q n0 h0 ws P) := by
  refine MetFree.of_bodySF hy hisR ?_
  intro p e s m args below meth c s₁ Bd hml0 hP hK
  obtain ⟨rfl, hZ, hh⟩ := hP
  exact B p e s m below meth c s₁ ⟨⟨[], Stand.of_body Bd, Fr.nil n0⟩, by rw [← hh, Bd.state]; rfl, Keep.refl _ _⟩ Bd.exec Bd.bytes hml0 (findClass_of_methodNamed Bd.named) (name_of_methodNamed Bd.named Bd.method).1 Bd.returns Bd.notSynchronized hZ
section Leave
variable {P : Option Value → Heap → Prop} {pc : Nat} {Ls : Array Slot} {rest : List Value} {C S : Nat}
theorem own_retN {t : FieldType} {z : Int32} (X : own_S p l e R s m args below meth c n0 h0 ws T h cells slots) (hx : p.tables.exec = Jvm.exec) (hret : meth.sig.returnType = some t) (hlk : meth.locks = false) (ht : t = .boolean ∨ t = .byte ∨ t = .char ∨ t = .short) (hd : decode c.code pc = .ok (.ireturn, 1)) (hc : cells ≤ C) (hs : slots ≤ S) (hP : P (some (.int (nar t z))) h) :
    own_G p e below (own_D s (own_Q n0 h0 ws P) C S) T (mkF m pc Ls (.int z :: rest)) := by
  obtain ⟨⟨locs, X, N⟩, rfl, K⟩ := X
  obtain ⟨fs, hr, hrun, hended, hW, hsame⟩ := X.leave (v := some (.int (nar t z))) (fun h => by rw [hret] at h; cases h) hlk
  exact ⟨_, _, retN X hx hret ht hd hr, hrun, hended, _, _, rfl, ⟨N, K, hP⟩, ⟨_, rfl⟩, hW, hsame.mono hc hs⟩
theorem own_retI {z : Int32} (X : own_S p l e R s m args below meth c n0 h0 ws T h cells slots) (hx : p.tables.exec = Jvm.exec) (hret : meth.sig.returnType = some .int) (hlk : meth.locks = false) (hd : decode c.code pc = .ok (.ireturn, 1)) (hc : cells ≤ C) (hs : slots ≤ S) (hP : P (some (.int z)) h) :
    own_G p e below (own_D s (own_Q n0 h0 ws P) C S) T (mkF m pc Ls (.int z :: rest)) := by
  obtain ⟨⟨locs, X, N⟩, rfl, K⟩ := X
  obtain ⟨fs, hr, hrun, hended, hW, hsame⟩ := X.leave (v := some (.int z)) (fun h => by rw [hret] at h; cases h) hlk
  exact ⟨_, _, retOut X hx hret rfl (Or.inl ⟨rfl, Or.inl rfl, _, rfl⟩) hd hr, hrun, hended, _, _, rfl, ⟨N, K, hP⟩, ⟨_, rfl⟩, hW, hsame.mono hc hs⟩
theorem own_retL {z : Int64} (X : own_S p l e R s m args below meth c n0 h0 ws T h cells slots) (hx : p.tables.exec = Jvm.exec) (hret : meth.sig.returnType = some .long) (hlk : meth.locks = false) (hd : decode c.code pc = .ok (.lreturn, 1)) (hc : cells ≤ C) (hs : slots ≤ S) (hP : P (some (.long z)) h) :
    own_G p e below (own_D s (own_Q n0 h0 ws P) C S) T (mkF m pc Ls (.long z :: rest)) := by
  obtain ⟨⟨locs, X, N⟩, rfl, K⟩ := X
  obtain ⟨fs, hr, hrun, hended, hW, hsame⟩ := X.leave (v := some (.long z)) (fun h => by rw [hret] at h; cases h) hlk
  exact ⟨_, _, retOut X hx hret rfl (Or.inr (Or.inl ⟨rfl, rfl, _, rfl⟩)) hd hr, hrun, hended, _, _, rfl, ⟨N, K, hP⟩, ⟨_, rfl⟩, hW, hsame.mono hc hs⟩
theorem own_retA {t : FieldType} {z : Addr} (X : own_S p l e R s m args below meth c n0 h0 ws T h cells slots) (hx : p.tables.exec = Jvm.exec) (hret : meth.sig.returnType = some t) (hlk : meth.locks = false) (ht : t.isReference = true) (hn : narrow t (.ref z) = .ref z) (hd : decode c.code pc = .ok (.areturn, 1)) (hc : cells ≤ C) (hs : slots ≤ S) (hP : P (some (.ref z)) h) :
    own_G p e below (own_D s (own_Q n0 h0 ws P) C S) T (mkF m pc Ls (.ref z :: rest)) := by
  obtain ⟨⟨locs, X, N⟩, rfl, K⟩ := X
  obtain ⟨fs, hr, hrun, hended, hW, hsame⟩ := X.leave (v := some (.ref z)) (fun h => by rw [hret] at h; cases h) hlk
  exact ⟨_, _, retOut X hx hret hn (Or.inr (Or.inr (Or.inr (Or.inr ⟨rfl, ht, rfl⟩)))) hd hr, hrun, hended, _, _, rfl, ⟨N, K, hP⟩, ⟨_, rfl⟩, hW, hsame.mono hc hs⟩
theorem own_ret0 (X : own_S p l e R s m args below meth c n0 h0 ws T h cells slots) (hx : p.tables.exec = Jvm.exec) (hret : meth.sig.returnType = none) (hlk : meth.locks = false) (hd : decode c.code pc = .ok (.return_, 1)) (hc : cells ≤ C) (hs : slots ≤ S) (hP : P none h) :
    own_G p e below (own_D s (own_Q n0 h0 ws P) C S) T (mkF m pc Ls []) := by
  obtain ⟨⟨locs, X, N⟩, rfl, K⟩ := X
  obtain ⟨fs, hr, hrun, hended, hW, hsame⟩ := X.leave (v := none) (fun _ => rfl) hlk
  exact ⟨_, _, X.returnOut hx hret hd hr, hrun, hended, _, _, rfl, ⟨N, K, hP⟩, ⟨_, rfl⟩, hW, hsame.mono hc hs⟩
end Leave
section Calls
variable {y : MethodName} {bytes : ByteArray} {maxL : Nat} {ret : Option FieldType} {rm : Room} {W : Nat} {own : String} {index : Nat} {P : Option Value → Heap → Prop} {wsc : List Addr} {G : Outcome → State → Prop} {pc : Nat} {Ls : Array Slot} {rest stk : List Value} {ps : List FieldType} {r : Option FieldType}
theorem own_callS (as : List Value) (X : own_S p l e R s m args below meth c n0 h0 ws T h cells slots) (hx : p.tables.exec = Jvm.exec) (hZ : Z.Warmed39 s.vm) (hown : s.vm.findClass own = some m.cls)
    (w1 : (Jvm.Cond.methodLink own index y).before a0 Z = true) (w2 : (Jvm.Cond.static y).before a0 Z = true) (w3 : (Jvm.Cond.initialized y.cls).before a0 Z = true) (w4 : (Jvm.Cond.code y bytes maxL ret).before a0 Z = true) (hy : y.cls ≠ "java/lang/invoke/MethodHandle" ∧ y.cls ≠ "java/lang/invoke/VarHandle")
    (M : own_M l y bytes maxL ret [] rm Z as.toArray h (own_Q n0 h wsc P)) (q : ∀ x ∈ wsc, x ∈ ws ∨ h0.size ≤ x)
    (hf : rm.frames + 1 ≤ R.frames) (hl : W + (maxL + 11) + rm.locals ≤ R.locals) (hc : cells + rm.cells ≤ R.cells) (hs : slots + rm.slots ≤ R.slots) (hsize : Ls.size = c.maxLocals)
    (hlen : parseMethodDescriptor y.desc = some ⟨ps, r⟩) (hlen' : as.length = ps.length) (hstk : stk = as.reverse ++ rest) (hW : (rest.map fun v => v.category).sum ≤ W) (hd : decode c.code pc = .ok (.invokestatic index, 3))
    (k : ∀ v T' h', own_S p l e R s m args below meth c n0 h0 ws T' h' (cells + rm.cells) (slots + rm.slots) → Keep h h' wsc → P v h' → own_G p e below G T' (mkF m (pc + 3) Ls (v.toList ++ rest))) :
    own_G p e below G T (mkF m pc Ls stk) := by
  obtain ⟨⟨locs, X, N⟩, e0, K⟩ := X
  obtain ⟨v, vm₁, ⟨T', L', k', n'⟩, -, X', ⟨Lc, hQ, l', y', z'⟩, st⟩ := Jvm.LawKit.callS X hx (y := y) hown (mvT hZ w1) (mvT hZ w2) (mvT hZ w3) (mvT hZ w4) hy (backOf (W := W) M hZ w4 w3 hf hl) (g := mkF m pc Ls stk) rfl hsize (argsL := as) (rest := rest) (lenOf hlen hlen') hstk (by show 2 * 0 + _ ≤ _; rw [Nat.mul_zero, Nat.zero_add]; exact hW) hd (fun _ _ => ⟨rfl, e0, hc, hs⟩)
  dsimp only [Pt.U, Pt.locs, Pt.cells, Pt.slots] at X' l' y' z' st hQ
  subst l' y' z'
  obtain ⟨N', K', hP⟩ := hQ
  exact own_st st (k v T' _ ⟨⟨_, X', N.app N'⟩, rfl, K.trans K' q⟩ K' hP)
theorem own_callC (as : List Value) {a : Addr} (X : own_S p l e R s m args below meth c n0 h0 ws T h cells slots) (hx : p.tables.exec = Jvm.exec) (hZ : Z.Warmed39 s.vm) (hown : s.vm.findClass own = some m.cls) (hy1 : y.name = "<init>")
    (w1 : (Jvm.Cond.methodLink own index y).before a0 Z = true) (w2 : (Jvm.Cond.instanceMethod y).before a0 Z = true) (w3 : (Jvm.Cond.initialized y.cls).before a0 Z = true) (w4 : (Jvm.Cond.code y bytes maxL none).before a0 Z = true) (hy : y.cls ≠ "java/lang/invoke/MethodHandle" ∧ y.cls ≠ "java/lang/invoke/VarHandle")
    (M : own_M l y bytes maxL none [] rm Z (Value.ref a :: as).toArray h (own_Q n0 h wsc P)) (q : ∀ x ∈ wsc, x ∈ ws ∨ h0.size ≤ x)
    (hf : rm.frames + 1 ≤ R.frames) (hl : W + (maxL + 11) + rm.locals ≤ R.locals) (hc : cells + rm.cells ≤ R.cells) (hs : slots + rm.slots ≤ R.slots) (hsize : Ls.size = c.maxLocals)
    (hlen : parseMethodDescriptor y.desc = some ⟨ps, r⟩) (hlen' : as.length = ps.length) (hstk : stk = as.reverse ++ .ref a :: rest) (hW : (rest.map fun v => v.category).sum ≤ W) (hd : decode c.code pc = .ok (.invokespecial index, 3))
    (k : ∀ v T' h', own_S p l e R s m args below meth c n0 h0 ws T' h' (cells + rm.cells) (slots + rm.slots) → Keep h h' wsc → P v h' → own_G p e below G T' (mkF m (pc + 3) Ls (v.toList ++ rest))) :
    own_G p e below G T (mkF m pc Ls stk) := by
  obtain ⟨⟨locs, X, N⟩, e0, K⟩ := X
  obtain ⟨v, vm₁, ⟨T', L', k', n'⟩, -, X', ⟨Lc, hQ, l', y', z'⟩, st⟩ := X.specialBack hx (y := y) hy1 hown (mvT hZ w1) (mvT hZ w2) (mvT hZ w4) hy (backOf (W := W) M hZ w4 w3 hf hl) (g := mkF m pc Ls stk) rfl hsize (Steps.refl _) (a := a) (argsL := as) (rest := rest) (lenOf hlen hlen') hstk (by show 2 * 0 + _ ≤ _; rw [Nat.mul_zero, Nat.zero_add]; exact hW) hd (fun _ _ => ⟨rfl, e0, hc, hs⟩)
  dsimp only [Pt.U, Pt.locs, Pt.cells, Pt.slots] at X' l' y' z' st hQ
  subst l' y' z'
  obtain ⟨N', K', hP⟩ := hQ
  exact own_st (fun t => st.trans) (k v T' _ ⟨⟨_, X', N.app N'⟩, rfl, K.trans K' q⟩ K' hP)
theorem own_callV (as : List Value) {a : Addr} (X : own_S p l e R s m args below meth c n0 h0 ws T h cells slots) (hx : p.tables.exec = Jvm.exec) (hZ : Z.Warmed39 s.vm) (hown : s.vm.findClass own = some m.cls)
    (w1 : (Jvm.Cond.methodLink own index y).before a0 Z = true) (w2 : (Jvm.Cond.declares y).before a0 Z = true) (w3 : (Jvm.Cond.selects y.cls y y).before a0 Z = true) (w5 : (Jvm.Cond.instanceMethod y).before a0 Z = true) (w6 : (Jvm.Cond.initialized y.cls).before a0 Z = true) (w4 : (Jvm.Cond.code y bytes maxL ret).before a0 Z = true) (hy : y.cls ≠ "java/lang/invoke/MethodHandle" ∧ y.cls ≠ "java/lang/invoke/VarHandle")
    (E : Exa Z h a y.cls)
    (M : own_M l y bytes maxL ret [] rm Z (Value.ref a :: as).toArray h (own_Q n0 h wsc P)) (q : ∀ x ∈ wsc, x ∈ ws ∨ h0.size ≤ x)
    (hf : rm.frames + 1 ≤ R.frames) (hl : W + (maxL + 11) + rm.locals ≤ R.locals) (hc : cells + rm.cells ≤ R.cells) (hs : slots + rm.slots ≤ R.slots) (hsize : Ls.size = c.maxLocals)
    (hlen : parseMethodDescriptor y.desc = some ⟨ps, r⟩) (hlen' : as.length = ps.length) (hstk : stk = as.reverse ++ .ref a :: rest) (hW : (rest.map fun v => v.category).sum ≤ W) (hd : decode c.code pc = .ok (.invokevirtual index, 3))
    (k : ∀ v T' h', own_S p l e R s m args below meth c n0 h0 ws T' h' (cells + rm.cells) (slots + rm.slots) → Keep h h' wsc → P v h' → own_G p e below G T' (mkF m (pc + 3) Ls (v.toList ++ rest))) :
    own_G p e below G T (mkF m pc Ls stk) := by
  obtain ⟨⟨locs, X, N⟩, e0, K⟩ := X
  obtain ⟨cq, kq, qa, qb, qc⟩ := isOf hZ e0 E
  obtain ⟨v, vm₁, ⟨T', L', k', n'⟩, -, X', ⟨Lc, hQ, l', y', z'⟩, st⟩ := X.virtualBack hx (y := y) (z := y) hown (mvT hZ w1) (mvT hZ w2) (notFace_of_selects (args := #[]) (mvT hZ w3)) (mvT hZ w3) (mvT hZ w5) hy (backOf (W := W) M hZ w4 w6 hf hl) qa qc (g := mkF m pc Ls stk) rfl hsize (Steps.refl _) (argsL := as) (rest := rest) (lenOf hlen hlen') hstk (by show 2 * 0 + _ ≤ _; rw [Nat.mul_zero, Nat.zero_add]; exact hW) hd (fun _ _ => ⟨rfl, e0, hc, hs⟩)
  dsimp only [Pt.U, Pt.locs, Pt.cells, Pt.slots] at X' l' y' z' st hQ
  subst l' y' z'
  obtain ⟨N', K', hP⟩ := hQ
  exact own_st (fun t => st.trans) (k v T' _ ⟨⟨_, X', N.app N'⟩, rfl, K.trans K' q⟩ K' hP)
theorem own_initO {a : Addr} (X : own_S p l e R s m args below meth c n0 h0 ws T h cells slots) (hx : p.tables.exec = Jvm.exec) (hZ : Z.Warmed39 s.vm) (hown : s.vm.findClass own = some m.cls)
    (w1 : (Jvm.Cond.methodLink own index Lib.objectInit).before a0 Z = true) (w2 : (Jvm.Cond.instanceMethod Lib.objectInit).before a0 Z = true) (w3 : (Jvm.Cond.code Lib.objectInit ⟨#[0xb1]⟩ 1 none).before a0 Z = true)
    (hf : 1 ≤ R.frames) (hl : W + 12 ≤ R.locals) (hsize : Ls.size = c.maxLocals) (hW : (rest.map fun v => v.category).sum ≤ W) (hd : decode c.code pc = .ok (.invokespecial index, 3))
    (k : ∀ T', own_S p l e R s m args below meth c n0 h0 ws T' h cells slots → own_G p e below G T' (mkF m (pc + 3) Ls rest)) :
    own_G p e below G T (mkF m pc Ls (.ref a :: rest)) := by
  obtain ⟨⟨locs, X, N⟩, e0, K⟩ := X
  obtain ⟨T1, X1, e1, st⟩ := initO X hx hZ hown w1 w2 w3 e0 (g := mkF m pc Ls (.ref a :: rest)) rfl hsize rfl hd hf (W := W) (by show 2 * 0 + _ ≤ _; rw [Nat.mul_zero, Nat.zero_add]; exact hW) hl
  exact own_st st (k T1 ⟨⟨_, X1, N⟩, e1, K⟩)
/-- a pure callee: it returns this and leaves the heap -/
def own_P (val : Value) (h0 : Heap) (v : Option Value) (h : Heap) : Prop := v = some val ∧ h = h0
theorem own_callSP (as : List Value) {val : Value} (X : own_S p l e R s m args below meth c n0 h0 ws T h cells slots) (hx : p.tables.exec = Jvm.exec) (hZ : Z.Warmed39 s.vm) (hown : s.vm.findClass own = some m.cls)
    (w1 : (Jvm.Cond.methodLink own index y).before a0 Z = true) (w2 : (Jvm.Cond.static y).before a0 Z = true) (w3 : (Jvm.Cond.initialized y.cls).before a0 Z = true) (w4 : (Jvm.Cond.code y bytes maxL ret).before a0 Z = true) (hy : y.cls ≠ "java/lang/invoke/MethodHandle" ∧ y.cls ≠ "java/lang/invoke/VarHandle")
    (M : own_M l y bytes maxL ret [] rm Z as.toArray h (own_Q n0 h [] (own_P val h)))
    (hf : rm.frames + 1 ≤ R.frames) (hl : W + (maxL + 11) + rm.locals ≤ R.locals) (hc : cells + rm.cells ≤ R.cells) (hs : slots + rm.slots ≤ R.slots) (hsize : Ls.size = c.maxLocals)
    (hlen : parseMethodDescriptor y.desc = some ⟨ps, r⟩) (hlen' : as.length = ps.length) (hstk : stk = as.reverse ++ rest) (hW : (rest.map fun v => v.category).sum ≤ W) (hd : decode c.code pc = .ok (.invokestatic index, 3))
    (k : ∀ T', own_S p l e R s m args below meth c n0 h0 ws T' h (cells + rm.cells) (slots + rm.slots) → own_G p e below G T' (mkF m (pc + 3) Ls (val :: rest))) :
    own_G p e below G T (mkF m pc Ls stk) :=
  own_callS as X hx hZ hown w1 w2 w3 w4 hy M (fun _ q => nomatch q) hf hl hc hs hsize hlen hlen' hstk hW hd fun v T' h' X' _ hv => by
    obtain ⟨hv, hh⟩ := hv
    rw [hv]; rw [hh] at X'
    exact k T' X'
/-- a callee that returns nothing and leaves the heap -/
def own_N (h0 : Heap) (v : Option Value) (h : Heap) : Prop := v = none ∧ h = h0
theorem own_callCN (as : List Value) {a : Addr} (X : own_S p l e R s m args below meth c n0 h0 ws T h cells slots) (hx : p.tables.exec = Jvm.exec) (hZ : Z.Warmed39 s.vm) (hown : s.vm.findClass own = some m.cls) (hy1 : y.name = "<init>")
    (w1 : (Jvm.Cond.methodLink own index y).before a0 Z = true) (w2 : (Jvm.Cond.instanceMethod y).before a0 Z = true) (w3 : (Jvm.Cond.initialized y.cls).before a0 Z = true) (w4 : (Jvm.Cond.code y bytes maxL none).before a0 Z = true) (hy : y.cls ≠ "java/lang/invoke/MethodHandle" ∧ y.cls ≠ "java/lang/invoke/VarHandle")
    (M : own_M l y bytes maxL none [] rm Z (Value.ref a :: as).toArray h (own_Q n0 h [] (own_N h)))
    (hf : rm.frames + 1 ≤ R.frames) (hl : W + (maxL + 11) + rm.locals ≤ R.locals) (hc : cells + rm.cells ≤ R.cells) (hs : slots + rm.slots ≤ R.slots) (hsize : Ls.size = c.maxLocals)
    (hlen : parseMethodDescriptor y.desc = some ⟨ps, r⟩) (hlen' : as.length = ps.length) (hstk : stk = as.reverse ++ .ref a :: rest) (hW : (rest.map fun v => v.category).sum ≤ W) (hd : decode c.code pc = .ok (.invokespecial index, 3))
    (k : ∀ T', own_S p l e R s m args below meth c n0 h0 ws T' h (cells + rm.cells) (slots + rm.slots) → own_G p e below G T' (mkF m (pc + 3) Ls rest)) :
    own_G p e below G T (mkF m pc Ls stk) :=
  own_callC as X hx hZ hown hy1 w1 w2 w3 w4 hy M (fun _ q => nomatch q) hf hl hc hs hsize hlen hlen' hstk hW hd fun v T' h' X' _ hv => by
    obtain ⟨hv, hh⟩ := hv
    rw [hv]; rw [hh] at X'
    exact k T' X'
theorem own_callVP (as : List Value) {val : Value} {a : Addr} (X : own_S p l e R s m args below meth c n0 h0 ws T h cells slots) (hx : p.tables.exec = Jvm.exec) (hZ : Z.Warmed39 s.vm) (hown : s.vm.findClass own = some m.cls)
    (w1 : (Jvm.Cond.methodLink own index y).before a0 Z = true) (w2 : (Jvm.Cond.declares y).before a0 Z = true) (w3 : (Jvm.Cond.selects y.cls y y).before a0 Z = true) (w5 : (Jvm.Cond.instanceMethod y).before a0 Z = true) (w6 : (Jvm.Cond.initialized y.cls).before a0 Z = true) (w4 : (Jvm.Cond.code y bytes maxL ret).before a0 Z = true) (hy : y.cls ≠ "java/lang/invoke/MethodHandle" ∧ y.cls ≠ "java/lang/invoke/VarHandle")
    (E : Exa Z h a y.cls)
    (M : own_M l y bytes maxL ret [] rm Z (Value.ref a :: as).toArray h (own_Q n0 h [] (own_P val h)))
    (hf : rm.frames + 1 ≤ R.frames) (hl : W + (maxL + 11) + rm.locals ≤ R.locals) (hc : cells + rm.cells ≤ R.cells) (hs : slots + rm.slots ≤ R.slots) (hsize : Ls.size = c.maxLocals)
    (hlen : parseMethodDescriptor y.desc = some ⟨ps, r⟩) (hlen' : as.length = ps.length) (hstk : stk = as.reverse ++ .ref a :: rest) (hW : (rest.map fun v => v.category).sum ≤ W) (hd : decode c.code pc = .ok (.invokevirtual index, 3))
    (k : ∀ T', own_S p l e R s m args below meth c n0 h0 ws T' h (cells + rm.cells) (slots + rm.slots) → own_G p e below G T' (mkF m (pc + 3) Ls (val :: rest))) :
    own_G p e below G T (mkF m pc Ls stk) :=
  own_callV as X hx hZ hown w1 w2 w3 w5 w6 w4 hy E M (fun _ q => nomatch q) hf hl hc hs hsize hlen hlen' hstk hW hd fun v T' h' X' _ hv => by
    obtain ⟨hv, hh⟩ := hv
    rw [hv]; rw [hh] at X'
    exact k T' X'
theorem own_irem {x z : Int32} (X : own_S p l e R s m args below meth c n0 h0 ws T h cells slots) (hx : p.tables.exec = Jvm.exec) (hd : decode c.code pc = .ok (.irem, 1)) (hz : z ≠ 0)
    (k : own_G p e below G T (mkF m (pc + 1) Ls (.int (x % z) :: rest))) : own_G p e below G T (mkF m pc Ls (.int z :: .int x :: rest)) :=
  own_st (fun t k => XS.irem X.her hx rfl hd rfl hz (by rw [irem_eq_mod]; exact k)) k
theorem own_lrem {x z : Int64} (X : own_S p l e R s m args below meth c n0 h0 ws T h cells slots) (hx : p.tables.exec = Jvm.exec) (hd : decode c.code pc = .ok (.lrem, 1)) (hz : z ≠ 0)
    (k : own_G p e below G T (mkF m (pc + 1) Ls (.long (x % z) :: rest))) : own_G p e below G T (mkF m pc Ls (.long z :: .long x :: rest)) :=
  own_st (fun t k => XS.lrem X.her hx rfl hd rfl hz (by rw [lrem_mod]; exact k)) k
theorem own_b2 (x : Int32) : x.toInt8.toInt32.toInt8.toInt32 = x.toInt8.toInt32 := by simp
end Calls
section Heap
variable {own : String} {index : Nat} {G : Outcome → State → Prop} {pc : Nat} {Ls : Array Slot} {rest : List Value}
theorem own_ldcI {v : Int32} (X : own_S p l e R s m args below meth c n0 h0 ws T h cells slots) (hx : p.tables.exec = Jvm.exec) (hZ : Z.Warmed39 s.vm) (hown : s.vm.findClass own = some m.cls) (w : (Jvm.Cond.constant own index v).before a0 Z = true) (hd : decode c.code pc = .ok (.ldc index, 2))
    (k : own_G p e below G T (mkF m (pc + 2) Ls (.int v :: rest))) : own_G p e below G T (mkF m pc Ls rest) := by
  obtain ⟨⟨locs, X, N⟩, e0, K⟩ := X
  exact own_st (X.ldcInt hx hown (mvT hZ w) (g := mkF m pc Ls rest) rfl hd) k
theorem own_ldcL {v : Int64} (X : own_S p l e R s m args below meth c n0 h0 ws T h cells slots) (hx : p.tables.exec = Jvm.exec) (hZ : Z.Warmed39 s.vm) (hown : s.vm.findClass own = some m.cls) (w : (Jvm.Cond.constantLong own index v).before a0 Z = true) (hd : decode c.code pc = .ok (.ldc2_w index, 3))
    (k : own_G p e below G T (mkF m (pc + 3) Ls (.long v :: rest))) : own_G p e below G T (mkF m pc Ls rest) := by
  obtain ⟨⟨locs, X, N⟩, e0, K⟩ := X
  exact own_st (X.ldc2Long hx hown (mvT hZ w) (g := mkF m pc Ls rest) rfl hd) k
theorem own_getF {a : Addr} {C n d : String} {v : Value} (X : own_S p l e R s m args below meth c n0 h0 ws T h cells slots) (hx : p.tables.exec = Jvm.exec) (hZ : Z.Warmed39 s.vm) (hown : s.vm.findClass own = some m.cls) (w : (Jvm.Cond.fieldLink own index C n d).before a0 Z = true) (F : Fld Z h a C n d v) (hd : decode c.code pc = .ok (.getfield index, 3))
    (k : ∀ T', own_S p l e R s m args below meth c n0 h0 ws T' h cells slots → own_G p e below G T' (mkF m (pc + 3) Ls (v :: rest))) : own_G p e below G T (mkF m pc Ls (.ref a :: rest)) := by
  obtain ⟨⟨locs, X, N⟩, e0, K⟩ := X
  obtain ⟨T1, X1, e1, st⟩ := getF X hx hZ hown (host := "") (Or.inl w) Via.refl e0 F (g := mkF m pc Ls (.ref a :: rest)) rfl rfl hd
  exact own_st st (k T1 ⟨⟨_, X1, N⟩, e1, K⟩)
theorem own_getS {C n d : String} {v : Value} (X : own_S p l e R s m args below meth c n0 h0 ws T h cells slots) (hx : p.tables.exec = Jvm.exec) (hZ : Z.Warmed39 s.vm) (hown : s.vm.findClass own = some m.cls) (w : (Jvm.Cond.fieldLink own index C n d).before a0 Z = true) (F : Sta Z h C n d v) (hd : decode c.code pc = .ok (.getstatic index, 3))
    (k : ∀ T', own_S p l e R s m args below meth c n0 h0 ws T' h cells slots → own_G p e below G T' (mkF m (pc + 3) Ls (v :: rest))) : own_G p e below G T (mkF m pc Ls rest) := by
  obtain ⟨⟨locs, X, N⟩, e0, K⟩ := X
  obtain ⟨T1, X1, e1, st⟩ := getS2 X hx hZ hown (host := "") (Or.inl w) Via.refl e0 F (g := mkF m pc Ls rest) rfl hd
  exact own_st st (k T1 ⟨⟨_, X1, N⟩, e1, K⟩)
theorem own_putF {a : Addr} {C n d : String} {v old : Value} {kk : Nat} {ty : FieldType} (X : own_S p l e R s m args below meth c n0 h0 ws T h cells slots) (hx : p.tables.exec = Jvm.exec) (hZ : Z.Warmed39 s.vm) (hown : s.vm.findClass own = some m.cls) (w : (Jvm.Cond.fieldLink own index C n d).before a0 Z = true) (F : Fld Z h a C n d old) (E : Exa Z h a C)
    (L : (Jvm.Cond.lays C C n d).before a0 Z = true ∨ ((Jvm.Cond.laysFinal C C n d).before a0 Z = true ∧ own = C ∧ meth.name = "<init>")) (wi : (Jvm.Cond.instantiable C kk).before a0 Z = true) (hty : parseFieldDescriptor d = some ty) (hn : narrow ty v = v) (hf : fits ty v = true) (hd : decode c.code pc = .ok (.putfield index, 3)) (ga : n0 ≤ a) (qa : a ∈ ws ∨ h0.size ≤ a)
    (k : ∀ T' h', own_S p l e R s m args below meth c n0 h0 ws T' h' cells slots → Wr h h' a (Jvm.RoadKit.slotOf Z C n d) v → Fld Z h' a C n d v → Exa Z h' a C → own_G p e below G T' (mkF m (pc + 3) Ls rest)) : own_G p e below G T (mkF m pc Ls (v :: .ref a :: rest)) := by
  obtain ⟨⟨locs, X, N⟩, e0, K⟩ := X
  obtain ⟨T1, h1, X1, e1, W1, st⟩ := putF X hx hZ hown (host := "") (Or.inl w) Via.refl e0 F E L wi hty hn hf (g := mkF m pc Ls (v :: .ref a :: rest)) rfl rfl hd
  exact own_st st (k T1 h1 ⟨⟨_, X1, Fr.snoc X1 N ga⟩, e1, K.wr W1 qa⟩ W1 (F.same W1) (E.wr W1))
theorem own_newO {C : String} {kk : Nat} (X : own_S p l e R s m args below meth c n0 h0 ws T h cells slots) (hx : p.tables.exec = Jvm.exec) (hZ : Z.Warmed39 s.vm) (hown : s.vm.findClass own = some m.cls) (w : (Jvm.Cond.classLink own index C).before a0 Z = true) (wi : (Jvm.Cond.instantiable C kk).before a0 Z = true) (wz : (Jvm.Cond.initialized C).before a0 Z = true) (hd : decode c.code pc = .ok (.new index, 3)) (hc : cells + 1 ≤ R.cells) (hl : slots + kk ≤ R.slots)
    (k : ∀ T' h' (b : Addr), b = h.size → h0.size ≤ b → own_S p l e R s m args below meth c n0 h0 ws T' h' (cells + 1) (slots + kk) → Ext h h' → Exa Z h' b C → (∀ {O nm d : String} {ty : FieldType}, Laid Z a0 C O nm d → parseFieldDescriptor d = some ty → Fld Z h' b O nm d (defaultValue ty)) → own_G p e below G T' (mkF m (pc + 3) Ls (.ref b :: rest))) : own_G p e below G T (mkF m pc Ls rest) := by
  obtain ⟨⟨locs, X, N⟩, e0, K⟩ := X
  obtain ⟨T1, h1, X1, e1, E1, A1, D1, -, st⟩ := newO X hx hZ hown w wi wz e0 (g := mkF m pc Ls rest) rfl hd hc hl
  exact own_st st (k T1 h1 _ rfl K.1 ⟨⟨_, X1, N⟩, e1, K.ext E1⟩ E1 A1 D1)
/-- a byte array with these elements -/
def own_B (Z : State) (h : Heap) (a : Addr) (L : List Int32) : Prop := ∃ c : Cell, Arr Z h a c .byte ∧ c.slots = (L.map Value.int).toArray
theorem own_B.lt {a : Addr} {L : List Int32} (B : own_B Z h a L) : a < h.size := by obtain ⟨c, A, _⟩ := B; exact A.lt
theorem own_B.ext {a : Addr} {L : List Int32} (B : own_B Z h a L) (E : Ext h h') : own_B Z h' a L := by obtain ⟨c, A, q⟩ := B; exact ⟨c, A.ext E, q⟩
theorem own_B.other {a b : Addr} {L : List Int32} {sl : Nat} {v : Value} (B : own_B Z h b L) (W : Wr h h' a sl v) (q : b ≠ a) : own_B Z h' b L := by obtain ⟨c, A, r⟩ := B; exact ⟨c, A.other W q, r⟩
theorem own_B.keep {a : Addr} {L : List Int32} (B : own_B Z h a L) (K : Keep h h' ws) (q : a ∉ ws) : own_B Z h' a L := by obtain ⟨c, A, r⟩ := B; exact ⟨c, ⟨K.2.1 a c A.1 q, A.2⟩, r⟩
theorem own_bload {a : Addr} {L : List Int32} {j v : Int32} (X : own_S p l e R s m args below meth c n0 h0 ws T h cells slots) (hx : p.tables.exec = Jvm.exec) (hZ : Z.Warmed39 s.vm) (B : own_B Z h a L) (hj : ¬ j < 0) (hv : L[j.toNatClampNeg]? = some v) (hd : decode c.code pc = .ok (.baload, 1))
    (k : own_G p e below G T (mkF m (pc + 1) Ls (.int v :: rest))) : own_G p e below G T (mkF m pc Ls (.int j :: .ref a :: rest)) := by
  obtain ⟨⟨locs, X, N⟩, e0, K⟩ := X
  obtain ⟨cl, A, q⟩ := B
  have h1 : cl.slots[j.toNatClampNeg]? = some (.int v) := by rw [q]; simp [hv]
  have h2 : ¬ (j < 0 ∨ cl.slots.size ≤ j.toNatClampNeg) := fun z => z.elim hj fun z => by
    have := (Array.getElem?_eq_some_iff.mp h1).1
    omega
  exact own_st (X.baloadBytes hx (j := j) (v := .int v) (by rw [e0]; exact A.1) (State.isArrayOf_alike hZ.alike A.2.1) A.2.2 h2 h1 (g := mkF m pc Ls (.int j :: .ref a :: rest)) rfl rfl hd) k
theorem own_bstore {a : Addr} {L : List Int32} {j x : Int32} (X : own_S p l e R s m args below meth c n0 h0 ws T h cells slots) (hx : p.tables.exec = Jvm.exec) (hZ : Z.Warmed39 s.vm) (B : own_B Z h a L) (hj : ¬ j < 0) (hv : j.toNatClampNeg < L.length) (hd : decode c.code pc = .ok (.bastore, 1)) (ga : n0 ≤ a) (qa : a ∈ ws ∨ h0.size ≤ a)
    (k : ∀ T' h', own_S p l e R s m args below meth c n0 h0 ws T' h' cells slots → Keep h h' [a] → Wr h h' a j.toNatClampNeg (.int (nar .byte x)) → own_B Z h' a (L.set j.toNatClampNeg x.toInt8.toInt32) → own_G p e below G T' (mkF m (pc + 1) Ls rest)) : own_G p e below G T (mkF m pc Ls (.int x :: .int j :: .ref a :: rest)) := by
  obtain ⟨⟨locs, X, N⟩, e0, K⟩ := X
  obtain ⟨cl, A, q⟩ := B
  have h2 : ¬ (j < 0 ∨ cl.slots.size ≤ j.toNatClampNeg) := fun z => z.elim hj fun z => by
    rw [q] at z
    simp at z
    omega
  obtain ⟨T1, h1, X1, e1, W1, st⟩ := stB X hx hZ e0 A (j := j) (x := x) h2 (g := mkF m pc Ls (.int x :: .int j :: .ref a :: rest)) rfl rfl hd
  refine own_st st (k T1 h1 ⟨⟨_, X1, Fr.snoc X1 N ga⟩, e1, K.wr W1 qa⟩ (Keep.of_wr W1) W1 ⟨_, A.same W1, ?_⟩)
  show (cl.slots.setIfInBounds j.toNatClampNeg _) = _
  rw [q]
  simp [nar]
theorem own_newB {n : Int32} {kk : Nat} (X : own_S p l e R s m args below meth c n0 h0 ws T h cells slots) (hx : p.tables.exec = Jvm.exec) (hZ : Z.Warmed39 s.vm) (w : (Jvm.Cond.arrayClass .byte).before a0 Z = true) (hn : ¬ n < 0) (hk : n.toNatClampNeg = kk) (hb : kk * 8 ≤ 536870912) (hc : cells + 1 ≤ R.cells) (hl : slots + kk ≤ R.slots) (hd : decode c.code pc = .ok (.newarray .byte, 2))
    (k : ∀ T' h' (b : Addr), b = h.size → h0.size ≤ b → own_S p l e R s m args below meth c n0 h0 ws T' h' (cells + 1) (slots + kk) → Ext h h' → own_B Z h' b (List.replicate kk 0) → own_G p e below G T' (mkF m (pc + 2) Ls (.ref b :: rest))) : own_G p e below G T (mkF m pc Ls (.int n :: rest)) := by
  obtain ⟨⟨locs, X, N⟩, e0, K⟩ := X
  obtain ⟨T1, h1, cA, X1, e1, E1, A1, st⟩ := newP X hx hZ (aty := .byte) w e0 (g := mkF m pc Ls (.int n :: rest)) rfl hd rfl hn (cap := kk) (Nat.le_of_eq hk) hb hc hl
  refine own_st st (k T1 h1 _ rfl K.1 ⟨⟨_, X1, N⟩, e1, K.ext E1⟩ E1 ⟨_, A1, ?_⟩)
  show Array.replicate n.toNatClampNeg (defaultValue .byte) = _
  rw [hk]
  simp [defaultValue]
end Heap
end Own
section OwnD
open Jvm.FP Jvm.Free.Fl
variable {p : Program} {l : Launch} {e : Env} {R : Room} {s : State} {m : MethodId} {args : Array Value} {below : List Frame} {meth : Method} {c : Code} {T T' : State} {locs : List Loc} {cells slots : Nat} {Z : State} {h h' h0 : Heap} {n0 : Nat} {ws : List Addr} {a0 : Array Value} {G : Outcome → State → Prop} {pc : Nat} {Ls : Array Slot} {rest : List Value}
theorem own_retD {P : Option Value → Heap → Prop} {C S : Nat} {z : UInt64} (X : own_S p l e R s m args below meth c n0 h0 ws T h cells slots) (hx : p.tables.exec = Jvm.exec) (hret : meth.sig.returnType = some .double) (hlk : meth.locks = false) (hd : decode c.code pc = .ok (.dreturn, 1)) (hc : cells ≤ C) (hs : slots ≤ S) (hP : P (some (.double z)) h) :
    own_G p e below (own_D s (own_Q n0 h0 ws P) C S) T (mkF m pc Ls (.double z :: rest)) := by
  obtain ⟨⟨locs, X, N⟩, rfl, K⟩ := X
  obtain ⟨fs, hr, hrun, hended, hW, hsame⟩ := X.leave (v := some (.double z)) (fun h => by rw [hret] at h; cases h) hlk
  exact ⟨_, _, retOut X hx hret rfl (Or.inr (Or.inr (Or.inl ⟨rfl, rfl, _, rfl⟩))) hd hr, hrun, hended, _, _, rfl, ⟨N, K, hP⟩, ⟨_, rfl⟩, hW, hsame.mono hc hs⟩
/-- a double array with these elements -/
def own_DA (Z : State) (h : Heap) (a : Addr) (L : List UInt64) : Prop := ∃ c : Cell, Arr Z h a c .double ∧ c.slots = (L.map Value.double).toArray
theorem own_DA.lt {a : Addr} {L : List UInt64} (B : own_DA Z h a L) : a < h.size := by obtain ⟨c, A, _⟩ := B; exact A.lt
theorem own_DA.ext {a : Addr} {L : List UInt64} (B : own_DA Z h a L) (E : Ext h h') : own_DA Z h' a L := by obtain ⟨c, A, q⟩ := B; exact ⟨c, A.ext E, q⟩
theorem own_DA.keep {a : Addr} {L : List UInt64} (B : own_DA Z h a L) (K : Keep h h' ws) (q : a ∉ ws) : own_DA Z h' a L := by obtain ⟨c, A, r⟩ := B; exact ⟨c, ⟨K.2.1 a c A.1 q, A.2⟩, r⟩
theorem own_dload {a : Addr} {L : List UInt64} {j : Int32} {v : UInt64} (X : own_S p l e R s m args below meth c n0 h0 ws T h cells slots) (hx : p.tables.exec = Jvm.exec) (hZ : Z.Warmed39 s.vm) (B : own_DA Z h a L) (hj : ¬ j < 0) (hv : L[j.toNatClampNeg]? = some v) (hd : decode c.code pc = .ok (.daload, 1))
    (k : own_G p e below G T (mkF m (pc + 1) Ls (.double v :: rest))) : own_G p e below G T (mkF m pc Ls (.int j :: .ref a :: rest)) := by
  obtain ⟨⟨locs, X, N⟩, e0, K⟩ := X
  obtain ⟨cl, A, q⟩ := B
  have h1 : cl.slots[j.toNatClampNeg]? = some (.double v) := by rw [q]; simp [hv]
  have h2 : ¬ (j < 0 ∨ cl.slots.size ≤ j.toNatClampNeg) := fun z => z.elim hj fun z => by
    have := (Array.getElem?_eq_some_iff.mp h1).1
    omega
  exact own_st (X.daload hx (j := j) (v := .double v) (by rw [e0]; exact A.1) (State.isArrayOf_alike hZ.alike A.2.1) A.2.2 h2 h1 (g := mkF m pc Ls (.int j :: .ref a :: rest)) rfl rfl hd) k
theorem own_dstore {a : Addr} {L : List UInt64} {j : Int32} {x : UInt64} (X : own_S p l e R s m args below meth c n0 h0 ws T h cells slots) (hx : p.tables.exec = Jvm.exec) (hZ : Z.Warmed39 s.vm) (B : own_DA Z h a L) (hj : ¬ j < 0) (hv : j.toNatClampNeg < L.length) (hd : decode c.code pc = .ok (.dastore, 1)) (ga : n0 ≤ a) (qa : a ∈ ws ∨ h0.size ≤ a)
    (k : ∀ T' h', own_S p l e R s m args below meth c n0 h0 ws T' h' cells slots → Keep h h' [a] → own_DA Z h' a (L.set j.toNatClampNeg x) → own_G p e below G T' (mkF m (pc + 1) Ls rest)) : own_G p e below G T (mkF m pc Ls (.double x :: .int j :: .ref a :: rest)) := by
  obtain ⟨⟨locs, X, N⟩, e0, K⟩ := X
  obtain ⟨cl, A, q⟩ := B
  have h2 : ¬ (j < 0 ∨ cl.slots.size ≤ j.toNatClampNeg) := fun z => z.elim hj fun z => by
    rw [q] at z
    simp at z
    omega
  obtain ⟨T1, h1, X1, e1, W1, st⟩ := stD X hx hZ e0 A (j := j) (x := x) h2 (g := mkF m pc Ls (.double x :: .int j :: .ref a :: rest)) rfl rfl hd
  refine own_st st (k T1 h1 ⟨⟨_, X1, Fr.snoc X1 N ga⟩, e1, K.wr W1 qa⟩ (Keep.of_wr W1) ⟨_, A.same W1, ?_⟩)
  show (cl.slots.setIfInBounds j.toNatClampNeg _) = _
  rw [q]
  simp
theorem own_newD {n : Int32} {kk : Nat} (X : own_S p l e R s m args below meth c n0 h0 ws T h cells slots) (hx : p.tables.exec = Jvm.exec) (hZ : Z.Warmed39 s.vm) (w : (Jvm.Cond.arrayClass .double).before a0 Z = true) (hn : ¬ n < 0) (hk : n.toNatClampNeg = kk) (hb : kk * 8 ≤ 536870912) (hc : cells + 1 ≤ R.cells) (hl : slots + kk ≤ R.slots) (hd : decode c.code pc = .ok (.newarray .double, 2))
    (k : ∀ T' h' (b : Addr), b = h.size → h0.size ≤ b → own_S p l e R s m args below meth c n0 h0 ws T' h' (cells + 1) (slots + kk) → Ext h h' → own_DA Z h' b (List.replicate kk 0) → own_G p e below G T' (mkF m (pc + 2) Ls (.ref b :: rest))) : own_G p e below G T (mkF m pc Ls (.int n :: rest)) := by
  obtain ⟨⟨locs, X, N⟩, e0, K⟩ := X
  obtain ⟨T1, h1, cA, X1, e1, E1, A1, st⟩ := newP X hx hZ (aty := .double) w e0 (g := mkF m pc Ls (.int n :: rest)) rfl hd rfl hn (cap := kk) (Nat.le_of_eq hk) hb hc hl
  refine own_st st (k T1 h1 _ rfl K.1 ⟨⟨_, X1, N⟩, e1, K.ext E1⟩ E1 ⟨_, A1, ?_⟩)
  show Array.replicate n.toNatClampNeg (defaultValue .double) = _
  rw [hk]
  simp [defaultValue]
theorem own_dlen {a : Addr} {L : List UInt64} {n : Int32} (X : own_S p l e R s m args below meth c n0 h0 ws T h cells slots) (hx : p.tables.exec = Jvm.exec) (hZ : Z.Warmed39 s.vm) (B : own_DA Z h a L) (hn : L.length.toInt32 = n) (hd : decode c.code pc = .ok (.arraylength, 1))
    (k : own_G p e below G T (mkF m (pc + 1) Ls (.int n :: rest))) : own_G p e below G T (mkF m pc Ls (.ref a :: rest)) := by
  obtain ⟨⟨locs, X, N⟩, e0, K⟩ := X
  obtain ⟨cl, A, q⟩ := B
  have e : cl.slots.size.toInt32 = n := by rw [q]; simpa using hn
  refine own_st (fun t k => X.arraylength hx (by rw [e0]; exact A.1) (State.isArrayOf_alike hZ.alike A.2.1) (g := mkF m pc Ls (.ref a :: rest)) rfl rfl hd t (by rw [e]; exact k)) k
theorem own_nadd {a b : Int64} (ha : B53 a) (hb : B53 b) : NoNaN64 (FP.dadd (FP.l2d a) (FP.l2d b)) := by rw [dadd_w ha hb]; exact (l2d_fin _).noNaN
theorem own_ndiv (a : Int64) {b : Int64} (hb : Nz64 (FP.l2d b)) : NoNaN64 (FP.ddiv (FP.l2d a) (FP.l2d b)) := ddiv_out (l2d_fin _).noNaN (l2d_fin _) hb
end OwnD
theorem own_w0 {Z : State} {a0 : Array Value} (hw : ∀ d ∈ tables_1, d.before a0 Z = true) : (Jvm.Cond.arrayClass Jvm.ClassFile.FieldType.double).before a0 Z = true := hw _ (List.mem_of_getElem? (i := 0) rfl)
theorem own_w1 {Z : State} {a0 : Array Value} (hw : ∀ d ∈ tables_1, d.before a0 Z = true) : (Jvm.Cond.methodLink "com/example/bidwright/bidwright/tournament/SamplesMeanPinLaw" (7 : Nat) ({ cls := "com/example/bidwright/bidwright/tournament/Samples", name := "mean", desc := "([D)D" } : Jvm.MethodName)).before a0 Z = true := hw _ (List.mem_of_getElem? (i := 1) rfl)
theorem own_w2 {Z : State} {a0 : Array Value} (hw : ∀ d ∈ tables_1, d.before a0 Z = true) : (Jvm.Cond.static ({ cls := "com/example/bidwright/bidwright/tournament/Samples", name := "mean", desc := "([D)D" } : Jvm.MethodName)).before a0 Z = true := hw _ (List.mem_of_getElem? (i := 2) rfl)
theorem own_w3 {Z : State} {a0 : Array Value} (hw : ∀ d ∈ tables_1, d.before a0 Z = true) : (Jvm.Cond.initialized "com/example/bidwright/bidwright/tournament/Samples").before a0 Z = true := hw _ (List.mem_of_getElem? (i := 3) rfl)
theorem own_w4 {Z : State} {a0 : Array Value} (hw : ∀ d ∈ tables_1, d.before a0 Z = true) : (Jvm.Cond.code ({ cls := "com/example/bidwright/bidwright/tournament/Samples", name := "mean", desc := "([D)D" } : Jvm.MethodName) prog_123_method_2_code (8 : Nat) (Option.some Jvm.ClassFile.FieldType.double)).before a0 Z = true := hw _ (List.mem_of_getElem? (i := 4) rfl)
theorem own_pd0 : parseMethodDescriptor "([D)D" = some ⟨[(.array .double)], some .double⟩ := by decide +kernel
theorem own_pn0 : plainName "com/example/bidwright/bidwright/tournament/Samples" = true := by first | (simp [plainName, overriddenIn]; done) | decide +kernel
theorem own_pd1 : parseMethodDescriptor "(IIIII)Z" = some ⟨[.int, .int, .int, .int, .int], some .boolean⟩ := by decide +kernel
theorem own_pn1 : plainName "com/example/bidwright/bidwright/tournament/SamplesMeanPinLaw" = true := by first | (simp [plainName, overriddenIn]; done) | decide +kernel
open Jvm.FP Jvm.Free.Fl
/-- a sum of at most four ints, as a long -/
def own_sm (k : Nat) (a : Int64) : Prop := -((k : Int) * 2147483648) ≤ a.toInt ∧ a.toInt ≤ (k : Int) * 2147483648
theorem own_sm0 : own_sm 0 (0 : Int64) := by unfold own_sm; decide
theorem own_sm1 (x : Int32) : own_sm 1 x.toInt64 := by
  have h1 := x.toInt_lt
  have h2 := x.le_toInt
  unfold own_sm
  rw [Jvm.Kit.i64_of_i32]
  omega
theorem own_sm_add {k : Nat} {a : Int64} (hk : k ≤ 4) (h : own_sm k a) (x : Int32) : own_sm (k + 1) (a + x.toInt64) := by
  have h1 := own_sm1 x
  unfold own_sm at *
  rw [Jvm.Kit.i64_add (by omega) (by omega)]
  omega
theorem own_smb {k : Nat} {a : Int64} (hk : k ≤ 5) (h : own_sm k a) : B53 a := by
  unfold own_sm at h
  constructor <;> omega
theorem d1_0 : decode prog_123_method_2_code 0 = .ok (.dconst 0, 1) := by decide +kernel
theorem d1_1 : decode prog_123_method_2_code 1 = .ok (.dstore_n 1, 1) := by decide +kernel
theorem d1_2 : decode prog_123_method_2_code 2 = .ok (.aload_n 0, 1) := by decide +kernel
theorem d1_3 : decode prog_123_method_2_code 3 = .ok (.astore_n 3, 1) := by decide +kernel
theorem d1_4 : decode prog_123_method_2_code 4 = .ok (.aload_n 3, 1) := by decide +kernel
theorem d1_5 : decode prog_123_method_2_code 5 = .ok (.arraylength, 1) := by decide +kernel
theorem d1_6 : decode prog_123_method_2_code 6 = .ok (.istore 4, 2) := by decide +kernel
theorem d1_8 : decode prog_123_method_2_code 8 = .ok (.iconst 0, 1) := by decide +kernel
theorem d1_9 : decode prog_123_method_2_code 9 = .ok (.istore 5, 2) := by decide +kernel
theorem d1_11 : decode prog_123_method_2_code 11 = .ok (.iload 5, 2) := by decide +kernel
theorem d1_13 : decode prog_123_method_2_code 13 = .ok (.iload 4, 2) := by decide +kernel
theorem d1_15 : decode prog_123_method_2_code 15 = .ok (.if_icmp .ge 20, 3) := by decide +kernel
theorem d1_18 : decode prog_123_method_2_code 18 = .ok (.aload_n 3, 1) := by decide +kernel
theorem d1_19 : decode prog_123_method_2_code 19 = .ok (.iload 5, 2) := by decide +kernel
theorem d1_21 : decode prog_123_method_2_code 21 = .ok (.daload, 1) := by decide +kernel
theorem d1_22 : decode prog_123_method_2_code 22 = .ok (.dstore 6, 2) := by decide +kernel
theorem d1_24 : decode prog_123_method_2_code 24 = .ok (.dload_n 1, 1) := by decide +kernel
theorem d1_25 : decode prog_123_method_2_code 25 = .ok (.dload 6, 2) := by decide +kernel
theorem d1_27 : decode prog_123_method_2_code 27 = .ok (.dadd, 1) := by decide +kernel
theorem d1_28 : decode prog_123_method_2_code 28 = .ok (.dstore_n 1, 1) := by decide +kernel
theorem d1_29 : decode prog_123_method_2_code 29 = .ok (.iinc 5 1, 3) := by decide +kernel
theorem d1_32 : decode prog_123_method_2_code 32 = .ok (.goto (-21), 3) := by decide +kernel
theorem d1_35 : decode prog_123_method_2_code 35 = .ok (.dload_n 1, 1) := by decide +kernel
theorem d1_36 : decode prog_123_method_2_code 36 = .ok (.aload_n 0, 1) := by decide +kernel
theorem d1_37 : decode prog_123_method_2_code 37 = .ok (.arraylength, 1) := by decide +kernel
theorem d1_38 : decode prog_123_method_2_code 38 = .ok (.i2d, 1) := by decide +kernel
theorem d1_39 : decode prog_123_method_2_code 39 = .ok (.ddiv, 1) := by decide +kernel
theorem d1_40 : decode prog_123_method_2_code 40 = .ok (.dreturn, 1) := by decide +kernel
theorem own_ef1 (m : MethodId) (r0 : Addr) : entryFrame m #[(.ref r0)] 8 = mkF m 0 #[.val (.ref r0), .unset, .unset, .unset, .unset, .unset, .unset, .unset] [] := by first | (simp [entryFrame, mkF, argsToLocals, Value.category]; done) | rfl
set_option maxRecDepth 65536 in
set_option maxHeartbeats 40000000 in
theorem own_m1 (l : Launch) (Z : State) (a0 : Array Value) (hw : ∀ d ∈ tables_1, d.before a0 Z = true) (h0 : Heap) (n0 : Nat) (Z0 : n0 ≤ h0.size) (r0 : Addr) (w0 : Int32) (B0 : own_DA Z h0 r0 [(FP.l2d (w0).toInt64)]) :
    own_M l (⟨"com/example/bidwright/bidwright/tournament/Samples", "mean", "([D)D"⟩ : MethodName) prog_123_method_2_code 8 (some .double) [] ({ frames := 0, cells := 0, slots := 0, locals := 0 } : Room) Z #[(.ref r0)] h0 (own_Q n0 h0 [] (own_P (.double (FP.ddiv (FP.l2d ((0 : Int64) + (w0).toInt64)) (FP.l2d (1 : Int32).toInt64))) h0)) := by
  refine own_body (plainFor_of_name own_pn0) ?_
  intro p e s m below meth c T0 X0 hx hby hml hown hnm hret hlk hZ
  refine own_cast (own_ef1 m r0) ?_
  refine own_st (f' := (mkF m 1 #[.val (.ref r0), .unset, .unset, .unset, .unset, .unset, .unset, .unset] [(.double (FP.l2d (0 : Int64)))])) (fun t k => XS.dconst0 X0.her hx rfl (hb hby d1_0) l2d_zero.symm k) ?_
  refine own_st (f' := (mkF m 2 #[.val (.ref r0), .val (.double (FP.l2d (0 : Int64))), .second, .unset, .unset, .unset, .unset, .unset] [])) (fun t k => XS.dstoreN X0.her hx rfl (hb hby d1_1) rfl (l' := #[.val (.ref r0), .val (.double (FP.l2d (0 : Int64))), .second, .unset, .unset, .unset, .unset, .unset]) rfl k) ?_
  refine own_st (f' := (mkF m 3 #[.val (.ref r0), .val (.double (FP.l2d (0 : Int64))), .second, .unset, .unset, .unset, .unset, .unset] [(.ref r0)])) (fun t k => XS.aloadN X0.her hx rfl (hb hby d1_2) rfl rfl k) ?_
  refine own_st (f' := (mkF m 4 #[.val (.ref r0), .val (.double (FP.l2d (0 : Int64))), .second, .val (.ref r0), .unset, .unset, .unset, .unset] [])) (fun t k => XS.astoreN X0.her hx rfl (hb hby d1_3) rfl rfl (l' := #[.val (.ref r0), .val (.double (FP.l2d (0 : Int64))), .second, .val (.ref r0), .unset, .unset, .unset, .unset]) rfl k) ?_
  refine own_st (f' := (mkF m 5 #[.val (.ref r0), .val (.double (FP.l2d (0 : Int64))), .second, .val (.ref r0), .unset, .unset, .unset, .unset] [(.ref r0)])) (fun t k => XS.aloadN X0.her hx rfl (hb hby d1_4) rfl rfl k) ?_
  refine own_dlen (n := (1 : Int32)) X0 hx hZ B0 (by show Nat.toInt32 1 = _; decide) (hb hby d1_5) ?_
  refine own_st (f' := (mkF m 8 #[.val (.ref r0), .val (.double (FP.l2d (0 : Int64))), .second, .val (.ref r0), .val (.int (1 : Int32)), .unset, .unset, .unset] [])) (fun t k => XS.istore X0.her hx rfl (hb hby d1_6) rfl (l' := #[.val (.ref r0), .val (.double (FP.l2d (0 : Int64))), .second, .val (.ref r0), .val (.int (1 : Int32)), .unset, .unset, .unset]) rfl k) ?_
  refine own_st (f' := (mkF m 9 #[.val (.ref r0), .val (.double (FP.l2d (0 : Int64))), .second, .val (.ref r0), .val (.int (1 : Int32)), .unset, .unset, .unset] [(.int (0 : Int32))])) (fun t k => XS.iconst X0.her hx rfl (hb hby d1_8) k) ?_
  refine own_st (f' := (mkF m 11 #[.val (.ref r0), .val (.double (FP.l2d (0 : Int64))), .second, .val (.ref r0), .val (.int (1 : Int32)), .val (.int (0 : Int32)), .unset, .unset] [])) (fun t k => XS.istore X0.her hx rfl (hb hby d1_9) rfl (l' := #[.val (.ref r0), .val (.double (FP.l2d (0 : Int64))), .second, .val (.ref r0), .val (.int (1 : Int32)), .val (.int (0 : Int32)), .unset, .unset]) rfl k) ?_
  refine own_st (f' := (mkF m 13 #[.val (.ref r0), .val (.double (FP.l2d (0 : Int64))), .second, .val (.ref r0), .val (.int (1 : Int32)), .val (.int (0 : Int32)), .unset, .unset] [(.int (0 : Int32))])) (fun t k => XS.iload X0.her hx rfl (hb hby d1_11) rfl k) ?_
  refine own_st (f' := (mkF m 15 #[.val (.ref r0), .val (.double (FP.l2d (0 : Int64))), .second, .val (.ref r0), .val (.int (1 : Int32)), .val (.int (0 : Int32)), .unset, .unset] [(.int (1 : Int32)), (.int (0 : Int32))])) (fun t k => XS.iload X0.her hx rfl (hb hby d1_13) rfl k) ?_
  refine own_st (f' := (mkF m 18 #[.val (.ref r0), .val (.double (FP.l2d (0 : Int64))), .second, .val (.ref r0), .val (.int (1 : Int32)), .val (.int (0 : Int32)), .unset, .unset] [])) (fun t k => XS.icmpNo X0.her hx rfl (hb hby d1_15) rfl (tlt (by decide : (0 : Int32) < (1 : Int32))).2.1 k) ?_
  refine own_st (f' := (mkF m 19 #[.val (.ref r0), .val (.double (FP.l2d (0 : Int64))), .second, .val (.ref r0), .val (.int (1 : Int32)), .val (.int (0 : Int32)), .unset, .unset] [(.ref r0)])) (fun t k => XS.aloadN X0.her hx rfl (hb hby d1_18) rfl rfl k) ?_
  refine own_st (f' := (mkF m 21 #[.val (.ref r0), .val (.double (FP.l2d (0 : Int64))), .second, .val (.ref r0), .val (.int (1 : Int32)), .val (.int (0 : Int32)), .unset, .unset] [(.int (0 : Int32)), (.ref r0)])) (fun t k => XS.iload X0.her hx rfl (hb hby d1_19) rfl k) ?_
  refine own_dload (v := (FP.l2d (w0).toInt64)) X0 hx hZ B0 (by decide) rfl (hb hby d1_21) ?_
  refine own_st (f' := (mkF m 24 #[.val (.ref r0), .val (.double (FP.l2d (0 : Int64))), .second, .val (.ref r0), .val (.int (1 : Int32)), .val (.int (0 : Int32)), .val (.double (FP.l2d (w0).toInt64)), .second] [])) (fun t k => XS.dstore X0.her hx rfl (hb hby d1_22) rfl (l' := #[.val (.ref r0), .val (.double (FP.l2d (0 : Int64))), .second, .val (.ref r0), .val (.int (1 : Int32)), .val (.int (0 : Int32)), .val (.double (FP.l2d (w0).toInt64)), .second]) rfl k) ?_
  refine own_st (f' := (mkF m 25 #[.val (.ref r0), .val (.double (FP.l2d (0 : Int64))), .second, .val (.ref r0), .val (.int (1 : Int32)), .val (.int (0 : Int32)), .val (.double (FP.l2d (w0).toInt64)), .second] [(.double (FP.l2d (0 : Int64)))])) (fun t k => XS.dloadN X0.her hx rfl (hb hby d1_24) rfl k) ?_
  refine own_st (f' := (mkF m 27 #[.val (.ref r0), .val (.double (FP.l2d (0 : Int64))), .second, .val (.ref r0), .val (.int (1 : Int32)), .val (.int (0 : Int32)), .val (.double (FP.l2d (w0).toInt64)), .second] [(.double (FP.l2d (w0).toInt64)), (.double (FP.l2d (0 : Int64)))])) (fun t k => XS.dload X0.her hx rfl (hb hby d1_25) rfl k) ?_
  refine own_st (f' := (mkF m 28 #[.val (.ref r0), .val (.double (FP.l2d (0 : Int64))), .second, .val (.ref r0), .val (.int (1 : Int32)), .val (.int (0 : Int32)), .val (.double (FP.l2d (w0).toInt64)), .second] [(.double (FP.l2d ((0 : Int64) + (w0).toInt64)))])) (fun t k => XS.daddS X0.her hx rfl (hb hby d1_27) rfl (own_nadd (own_smb (k := 0) (by decide) own_sm0) (own_smb (k := 1) (by decide) (own_sm1 _))) (dadd_w (own_smb (k := 0) (by decide) own_sm0) (own_smb (k := 1) (by decide) (own_sm1 _))) k) ?_
  refine own_st (f' := (mkF m 29 #[.val (.ref r0), .val (.double (FP.l2d ((0 : Int64) + (w0).toInt64))), .second, .val (.ref r0), .val (.int (1 : Int32)), .val (.int (0 : Int32)), .val (.double (FP.l2d (w0).toInt64)), .second] [])) (fun t k => XS.dstoreN X0.her hx rfl (hb hby d1_28) rfl (l' := #[.val (.ref r0), .val (.double (FP.l2d ((0 : Int64) + (w0).toInt64))), .second, .val (.ref r0), .val (.int (1 : Int32)), .val (.int (0 : Int32)), .val (.double (FP.l2d (w0).toInt64)), .second]) rfl k) ?_
  refine own_st (f' := (mkF m 32 #[.val (.ref r0), .val (.double (FP.l2d ((0 : Int64) + (w0).toInt64))), .second, .val (.ref r0), .val (.int (1 : Int32)), .val (.int (1 : Int32)), .val (.double (FP.l2d (w0).toInt64)), .second] [])) (fun t k => XS.iinc X0.her hx rfl (hb hby d1_29) rfl (l' := #[.val (.ref r0), .val (.double (FP.l2d ((0 : Int64) + (w0).toInt64))), .second, .val (.ref r0), .val (.int (1 : Int32)), .val (.int (1 : Int32)), .val (.double (FP.l2d (w0).toInt64)), .second]) rfl k) ?_
  refine own_st (f' := (mkF m 11 #[.val (.ref r0), .val (.double (FP.l2d ((0 : Int64) + (w0).toInt64))), .second, .val (.ref r0), .val (.int (1 : Int32)), .val (.int (1 : Int32)), .val (.double (FP.l2d (w0).toInt64)), .second] [])) (fun t k => XS.goto X0.her hx rfl (pc0 := 32) (pc' := 11) rfl (hb hby d1_32) (by decide) (by decide) k) ?_
  refine own_st (f' := (mkF m 13 #[.val (.ref r0), .val (.double (FP.l2d ((0 : Int64) + (w0).toInt64))), .second, .val (.ref r0), .val (.int (1 : Int32)), .val (.int (1 : Int32)), .val (.double (FP.l2d (w0).toInt64)), .second] [(.int (1 : Int32))])) (fun t k => XS.iload X0.her hx rfl (hb hby d1_11) rfl k) ?_
  refine own_st (f' := (mkF m 15 #[.val (.ref r0), .val (.double (FP.l2d ((0 : Int64) + (w0).toInt64))), .second, .val (.ref r0), .val (.int (1 : Int32)), .val (.int (1 : Int32)), .val (.double (FP.l2d (w0).toInt64)), .second] [(.int (1 : Int32)), (.int (1 : Int32))])) (fun t k => XS.iload X0.her hx rfl (hb hby d1_13) rfl k) ?_
  refine own_st (f' := (mkF m 35 #[.val (.ref r0), .val (.double (FP.l2d ((0 : Int64) + (w0).toInt64))), .second, .val (.ref r0), .val (.int (1 : Int32)), .val (.int (1 : Int32)), .val (.double (FP.l2d (w0).toInt64)), .second] [])) (fun t k => XS.icmpYes X0.her hx rfl (pc0 := 15) (pc' := 35) rfl (hb hby d1_15) rfl (flt (by simp : ¬ ((1 : Int32) < (1 : Int32)))).2.1 (by decide) (by decide) k) ?_
  refine own_st (f' := (mkF m 36 #[.val (.ref r0), .val (.double (FP.l2d ((0 : Int64) + (w0).toInt64))), .second, .val (.ref r0), .val (.int (1 : Int32)), .val (.int (1 : Int32)), .val (.double (FP.l2d (w0).toInt64)), .second] [(.double (FP.l2d ((0 : Int64) + (w0).toInt64)))])) (fun t k => XS.dloadN X0.her hx rfl (hb hby d1_35) rfl k) ?_
  refine own_st (f' := (mkF m 37 #[.val (.ref r0), .val (.double (FP.l2d ((0 : Int64) + (w0).toInt64))), .second, .val (.ref r0), .val (.int (1 : Int32)), .val (.int (1 : Int32)), .val (.double (FP.l2d (w0).toInt64)), .second] [(.ref r0), (.double (FP.l2d ((0 : Int64) + (w0).toInt64)))])) (fun t k => XS.aloadN X0.her hx rfl (hb hby d1_36) rfl rfl k) ?_
  refine own_dlen (n := (1 : Int32)) X0 hx hZ B0 (by show Nat.toInt32 1 = _; decide) (hb hby d1_37) ?_
  refine own_st (f' := (mkF m 39 #[.val (.ref r0), .val (.double (FP.l2d ((0 : Int64) + (w0).toInt64))), .second, .val (.ref r0), .val (.int (1 : Int32)), .val (.int (1 : Int32)), .val (.double (FP.l2d (w0).toInt64)), .second] [(.double (FP.l2d ((1 : Int32)).toInt64)), (.double (FP.l2d ((0 : Int64) + (w0).toInt64)))])) (fun t k => XS.i2dS X0.her hx rfl (hb hby d1_38) rfl (i2d_w _) k) ?_
  refine own_st (f' := (mkF m 40 #[.val (.ref r0), .val (.double (FP.l2d ((0 : Int64) + (w0).toInt64))), .second, .val (.ref r0), .val (.int (1 : Int32)), .val (.int (1 : Int32)), .val (.double (FP.l2d (w0).toInt64)), .second] [(.double (FP.ddiv (FP.l2d ((0 : Int64) + (w0).toInt64)) (FP.l2d ((1 : Int32)).toInt64)))])) (fun t k => XS.ddivS X0.her hx rfl (hb hby d1_39) rfl (own_ndiv _ (by unfold Nz64; decide +kernel)) rfl k) ?_
  refine own_retD X0 hx hret hlk (hb hby d1_40) (by first | decide | omega) (by first | decide | omega) ?_
  exact ⟨rfl, rfl⟩
set_option maxRecDepth 65536 in
set_option maxHeartbeats 40000000 in
theorem own_m2 (l : Launch) (Z : State) (a0 : Array Value) (hw : ∀ d ∈ tables_1, d.before a0 Z = true) (h0 : Heap) (n0 : Nat) (Z0 : n0 ≤ h0.size) (r0 : Addr) (w0 : Int32) (w1 : Int32) (B0 : own_DA Z h0 r0 [(FP.l2d (w0).toInt64), (FP.l2d (w1).toInt64)]) :
    own_M l (⟨"com/example/bidwright/bidwright/tournament/Samples", "mean", "([D)D"⟩ : MethodName) prog_123_method_2_code 8 (some .double) [] ({ frames := 0, cells := 0, slots := 0, locals := 0 } : Room) Z #[(.ref r0)] h0 (own_Q n0 h0 [] (own_P (.double (FP.ddiv (FP.l2d (((0 : Int64) + (w0).toInt64) + (w1).toInt64)) (FP.l2d (2 : Int32).toInt64))) h0)) := by
  refine own_body (plainFor_of_name own_pn0) ?_
  intro p e s m below meth c T0 X0 hx hby hml hown hnm hret hlk hZ
  refine own_cast (own_ef1 m r0) ?_
  refine own_st (f' := (mkF m 1 #[.val (.ref r0), .unset, .unset, .unset, .unset, .unset, .unset, .unset] [(.double (FP.l2d (0 : Int64)))])) (fun t k => XS.dconst0 X0.her hx rfl (hb hby d1_0) l2d_zero.symm k) ?_
  refine own_st (f' := (mkF m 2 #[.val (.ref r0), .val (.double (FP.l2d (0 : Int64))), .second, .unset, .unset, .unset, .unset, .unset] [])) (fun t k => XS.dstoreN X0.her hx rfl (hb hby d1_1) rfl (l' := #[.val (.ref r0), .val (.double (FP.l2d (0 : Int64))), .second, .unset, .unset, .unset, .unset, .unset]) rfl k) ?_
  refine own_st (f' := (mkF m 3 #[.val (.ref r0), .val (.double (FP.l2d (0 : Int64))), .second, .unset, .unset, .unset, .unset, .unset] [(.ref r0)])) (fun t k => XS.aloadN X0.her hx rfl (hb hby d1_2) rfl rfl k) ?_
  refine own_st (f' := (mkF m 4 #[.val (.ref r0), .val (.double (FP.l2d (0 : Int64))), .second, .val (.ref r0), .unset, .unset, .unset, .unset] [])) (fun t k => XS.astoreN X0.her hx rfl (hb hby d1_3) rfl rfl (l' := #[.val (.ref r0), .val (.double (FP.l2d (0 : Int64))), .second, .val (.ref r0), .unset, .unset, .unset, .unset]) rfl k) ?_
  refine own_st (f' := (mkF m 5 #[.val (.ref r0), .val (.double (FP.l2d (0 : Int64))), .second, .val (.ref r0), .unset, .unset, .unset, .unset] [(.ref r0)])) (fun t k => XS.aloadN X0.her hx rfl (hb hby d1_4) rfl rfl k) ?_
  refine own_dlen (n := (2 : Int32)) X0 hx hZ B0 (by show Nat.toInt32 2 = _; decide) (hb hby d1_5) ?_
  refine own_st (f' := (mkF m 8 #[.val (.ref r0), .val (.double (FP.l2d (0 : Int64))), .second, .val (.ref r0), .val (.int (2 : Int32)), .unset, .unset, .unset] [])) (fun t k => XS.istore X0.her hx rfl (hb hby d1_6) rfl (l' := #[.val (.ref r0), .val (.double (FP.l2d (0 : Int64))), .second, .val (.ref r0), .val (.int (2 : Int32)), .unset, .unset, .unset]) rfl k) ?_
  refine own_st (f' := (mkF m 9 #[.val (.ref r0), .val (.double (FP.l2d (0 : Int64))), .second, .val (.ref r0), .val (.int (2 : Int32)), .unset, .unset, .unset] [(.int (0 : Int32))])) (fun t k => XS.iconst X0.her hx rfl (hb hby d1_8) k) ?_
  refine own_st (f' := (mkF m 11 #[.val (.ref r0), .val (.double (FP.l2d (0 : Int64))), .second, .val (.ref r0), .val (.int (2 : Int32)), .val (.int (0 : Int32)), .unset, .unset] [])) (fun t k => XS.istore X0.her hx rfl (hb hby d1_9) rfl (l' := #[.val (.ref r0), .val (.double (FP.l2d (0 : Int64))), .second, .val (.ref r0), .val (.int (2 : Int32)), .val (.int (0 : Int32)), .unset, .unset]) rfl k) ?_
  refine own_st (f' := (mkF m 13 #[.val (.ref r0), .val (.double (FP.l2d (0 : Int64))), .second, .val (.ref r0), .val (.int (2 : Int32)), .val (.int (0 : Int32)), .unset, .unset] [(.int (0 : Int32))])) (fun t k => XS.iload X0.her hx rfl (hb hby d1_11) rfl k) ?_
  refine own_st (f' := (mkF m 15 #[.val (.ref r0), .val (.double (FP.l2d (0 : Int64))), .second, .val (.ref r0), .val (.int (2 : Int32)), .val (.int (0 : Int32)), .unset, .unset] [(.int (2 : Int32)), (.int (0 : Int32))])) (fun t k => XS.iload X0.her hx rfl (hb hby d1_13) rfl k) ?_
  refine own_st (f' := (mkF m 18 #[.val (.ref r0), .val (.double (FP.l2d (0 : Int64))), .second, .val (.ref r0), .val (.int (2 : Int32)), .val (.int (0 : Int32)), .unset, .unset] [])) (fun t k => XS.icmpNo X0.her hx rfl (hb hby d1_15) rfl (tlt (by decide : (0 : Int32) < (2 : Int32))).2.1 k) ?_
  refine own_st (f' := (mkF m 19 #[.val (.ref r0), .val (.double (FP.l2d (0 : Int64))), .second, .val (.ref r0), .val (.int (2 : Int32)), .val (.int (0 : Int32)), .unset, .unset] [(.ref r0)])) (fun t k => XS.aloadN X0.her hx rfl (hb hby d1_18) rfl rfl k) ?_
  refine own_st (f' := (mkF m 21 #[.val (.ref r0), .val (.double (FP.l2d (0 : Int64))), .second, .val (.ref r0), .val (.int (2 : Int32)), .val (.int (0 : Int32)), .unset, .unset] [(.int (0 : Int32)), (.ref r0)])) (fun t k => XS.iload X0.her hx rfl (hb hby d1_19) rfl k) ?_
  refine own_dload (v := (FP.l2d (w0).toInt64)) X0 hx hZ B0 (by decide) rfl (hb hby d1_21) ?_
  refine own_st (f' := (mkF m 24 #[.val (.ref r0), .val (.double (FP.l2d (0 : Int64))), .second, .val (.ref r0), .val (.int (2 : Int32)), .val (.int (0 : Int32)), .val (.double (FP.l2d (w0).toInt64)), .second] [])) (fun t k => XS.dstore X0.her hx rfl (hb hby d1_22) rfl (l' := #[.val (.ref r0), .val (.double (FP.l2d (0 : Int64))), .second, .val (.ref r0), .val (.int (2 : Int32)), .val (.int (0 : Int32)), .val (.double (FP.l2d (w0).toInt64)), .second]) rfl k) ?_
  refine own_st (f' := (mkF m 25 #[.val (.ref r0), .val (.double (FP.l2d (0 : Int64))), .second, .val (.ref r0), .val (.int (2 : Int32)), .val (.int (0 : Int32)), .val (.double (FP.l2d (w0).toInt64)), .second] [(.double (FP.l2d (0 : Int64)))])) (fun t k => XS.dloadN X0.her hx rfl (hb hby d1_24) rfl k) ?_
  refine own_st (f' := (mkF m 27 #[.val (.ref r0), .val (.double (FP.l2d (0 : Int64))), .second, .val (.ref r0), .val (.int (2 : Int32)), .val (.int (0 : Int32)), .val (.double (FP.l2d (w0).toInt64)), .second] [(.double (FP.l2d (w0).toInt64)), (.double (FP.l2d (0 : Int64)))])) (fun t k => XS.dload X0.her hx rfl (hb hby d1_25) rfl k) ?_
  refine own_st (f' := (mkF m 28 #[.val (.ref r0), .val (.double (FP.l2d (0 : Int64))), .second, .val (.ref r0), .val (.int (2 : Int32)), .val (.int (0 : Int32)), .val (.double (FP.l2d (w0).toInt64)), .second] [(.double (FP.l2d ((0 : Int64) + (w0).toInt64)))])) (fun t k => XS.daddS X0.her hx rfl (hb hby d1_27) rfl (own_nadd (own_smb (k := 0) (by decide) own_sm0) (own_smb (k := 1) (by decide) (own_sm1 _))) (dadd_w (own_smb (k := 0) (by decide) own_sm0) (own_smb (k := 1) (by decide) (own_sm1 _))) k) ?_
  refine own_st (f' := (mkF m 29 #[.val (.ref r0), .val (.double (FP.l2d ((0 : Int64) + (w0).toInt64))), .second, .val (.ref r0), .val (.int (2 : Int32)), .val (.int (0 : Int32)), .val (.double (FP.l2d (w0).toInt64)), .second] [])) (fun t k => XS.dstoreN X0.her hx rfl (hb hby d1_28) rfl (l' := #[.val (.ref r0), .val (.double (FP.l2d ((0 : Int64) + (w0).toInt64))), .second, .val (.ref r0), .val (.int (2 : Int32)), .val (.int (0 : Int32)), .val (.double (FP.l2d (w0).toInt64)), .second]) rfl k) ?_
  refine own_st (f' := (mkF m 32 #[.val (.ref r0), .val (.double (FP.l2d ((0 : Int64) + (w0).toInt64))), .second, .val (.ref r0), .val (.int (2 : Int32)), .val (.int (1 : Int32)), .val (.double (FP.l2d (w0).toInt64)), .second] [])) (fun t k => XS.iinc X0.her hx rfl (hb hby d1_29) rfl (l' := #[.val (.ref r0), .val (.double (FP.l2d ((0 : Int64) + (w0).toInt64))), .second, .val (.ref r0), .val (.int (2 : Int32)), .val (.int (1 : Int32)), .val (.double (FP.l2d (w0).toInt64)), .second]) rfl k) ?_
  refine own_st (f' := (mkF m 11 #[.val (.ref r0), .val (.double (FP.l2d ((0 : Int64) + (w0).toInt64))), .second, .val (.ref r0), .val (.int (2 : Int32)), .val (.int (1 : Int32)), .val (.double (FP.l2d (w0).toInt64)), .second] [])) (fun t k => XS.goto X0.her hx rfl (pc0 := 32) (pc' := 11) rfl (hb hby d1_32) (by decide) (by decide) k) ?_
  refine own_st (f' := (mkF m 13 #[.val (.ref r0), .val (.double (FP.l2d ((0 : Int64) + (w0).toInt64))), .second, .val (.ref r0), .val (.int (2 : Int32)), .val (.int (1 : Int32)), .val (.double (FP.l2d (w0).toInt64)), .second] [(.int (1 : Int32))])) (fun t k => XS.iload X0.her hx rfl (hb hby d1_11) rfl k) ?_
  refine own_st (f' := (mkF m 15 #[.val (.ref r0), .val (.double (FP.l2d ((0 : Int64) + (w0).toInt64))), .second, .val (.ref r0), .val (.int (2 : Int32)), .val (.int (1 : Int32)), .val (.double (FP.l2d (w0).toInt64)), .second] [(.int (2 : Int32)), (.int (1 : Int32))])) (fun t k => XS.iload X0.her hx rfl (hb hby d1_13) rfl k) ?_
  refine own_st (f' := (mkF m 18 #[.val (.ref r0), .val (.double (FP.l2d ((0 : Int64) + (w0).toInt64))), .second, .val (.ref r0), .val (.int (2 : Int32)), .val (.int (1 : Int32)), .val (.double (FP.l2d (w0).toInt64)), .second] [])) (fun t k => XS.icmpNo X0.her hx rfl (hb hby d1_15) rfl (tlt (by decide : (1 : Int32) < (2 : Int32))).2.1 k) ?_
  refine own_st (f' := (mkF m 19 #[.val (.ref r0), .val (.double (FP.l2d ((0 : Int64) + (w0).toInt64))), .second, .val (.ref r0), .val (.int (2 : Int32)), .val (.int (1 : Int32)), .val (.double (FP.l2d (w0).toInt64)), .second] [(.ref r0)])) (fun t k => XS.aloadN X0.her hx rfl (hb hby d1_18) rfl rfl k) ?_
  refine own_st (f' := (mkF m 21 #[.val (.ref r0), .val (.double (FP.l2d ((0 : Int64) + (w0).toInt64))), .second, .val (.ref r0), .val (.int (2 : Int32)), .val (.int (1 : Int32)), .val (.double (FP.l2d (w0).toInt64)), .second] [(.int (1 : Int32)), (.ref r0)])) (fun t k => XS.iload X0.her hx rfl (hb hby d1_19) rfl k) ?_
  refine own_dload (v := (FP.l2d (w1).toInt64)) X0 hx hZ B0 (by decide) rfl (hb hby d1_21) ?_
  refine own_st (f' := (mkF m 24 #[.val (.ref r0), .val (.double (FP.l2d ((0 : Int64) + (w0).toInt64))), .second, .val (.ref r0), .val (.int (2 : Int32)), .val (.int (1 : Int32)), .val (.double (FP.l2d (w1).toInt64)), .second] [])) (fun t k => XS.dstore X0.her hx rfl (hb hby d1_22) rfl (l' := #[.val (.ref r0), .val (.double (FP.l2d ((0 : Int64) + (w0).toInt64))), .second, .val (.ref r0), .val (.int (2 : Int32)), .val (.int (1 : Int32)), .val (.double (FP.l2d (w1).toInt64)), .second]) rfl k) ?_
  refine own_st (f' := (mkF m 25 #[.val (.ref r0), .val (.double (FP.l2d ((0 : Int64) + (w0).toInt64))), .second, .val (.ref r0), .val (.int (2 : Int32)), .val (.int (1 : Int32)), .val (.double (FP.l2d (w1).toInt64)), .second] [(.double (FP.l2d ((0 : Int64) + (w0).toInt64)))])) (fun t k => XS.dloadN X0.her hx rfl (hb hby d1_24) rfl k) ?_
  refine own_st (f' := (mkF m 27 #[.val (.ref r0), .val (.double (FP.l2d ((0 : Int64) + (w0).toInt64))), .second, .val (.ref r0), .val (.int (2 : Int32)), .val (.int (1 : Int32)), .val (.double (FP.l2d (w1).toInt64)), .second] [(.double (FP.l2d (w1).toInt64)), (.double (FP.l2d ((0 : Int64) + (w0).toInt64)))])) (fun t k => XS.dload X0.her hx rfl (hb hby d1_25) rfl k) ?_
  refine own_st (f' := (mkF m 28 #[.val (.ref r0), .val (.double (FP.l2d ((0 : Int64) + (w0).toInt64))), .second, .val (.ref r0), .val (.int (2 : Int32)), .val (.int (1 : Int32)), .val (.double (FP.l2d (w1).toInt64)), .second] [(.double (FP.l2d (((0 : Int64) + (w0).toInt64) + (w1).toInt64)))])) (fun t k => XS.daddS X0.her hx rfl (hb hby d1_27) rfl (own_nadd (own_smb (k := 1) (by decide) (own_sm_add (by decide) own_sm0 _)) (own_smb (k := 1) (by decide) (own_sm1 _))) (dadd_w (own_smb (k := 1) (by decide) (own_sm_add (by decide) own_sm0 _)) (own_smb (k := 1) (by decide) (own_sm1 _))) k) ?_
  refine own_st (f' := (mkF m 29 #[.val (.ref r0), .val (.double (FP.l2d (((0 : Int64) + (w0).toInt64) + (w1).toInt64))), .second, .val (.ref r0), .val (.int (2 : Int32)), .val (.int (1 : Int32)), .val (.double (FP.l2d (w1).toInt64)), .second] [])) (fun t k => XS.dstoreN X0.her hx rfl (hb hby d1_28) rfl (l' := #[.val (.ref r0), .val (.double (FP.l2d (((0 : Int64) + (w0).toInt64) + (w1).toInt64))), .second, .val (.ref r0), .val (.int (2 : Int32)), .val (.int (1 : Int32)), .val (.double (FP.l2d (w1).toInt64)), .second]) rfl k) ?_
  refine own_st (f' := (mkF m 32 #[.val (.ref r0), .val (.double (FP.l2d (((0 : Int64) + (w0).toInt64) + (w1).toInt64))), .second, .val (.ref r0), .val (.int (2 : Int32)), .val (.int (2 : Int32)), .val (.double (FP.l2d (w1).toInt64)), .second] [])) (fun t k => XS.iinc X0.her hx rfl (hb hby d1_29) rfl (l' := #[.val (.ref r0), .val (.double (FP.l2d (((0 : Int64) + (w0).toInt64) + (w1).toInt64))), .second, .val (.ref r0), .val (.int (2 : Int32)), .val (.int (2 : Int32)), .val (.double (FP.l2d (w1).toInt64)), .second]) rfl k) ?_
  refine own_st (f' := (mkF m 11 #[.val (.ref r0), .val (.double (FP.l2d (((0 : Int64) + (w0).toInt64) + (w1).toInt64))), .second, .val (.ref r0), .val (.int (2 : Int32)), .val (.int (2 : Int32)), .val (.double (FP.l2d (w1).toInt64)), .second] [])) (fun t k => XS.goto X0.her hx rfl (pc0 := 32) (pc' := 11) rfl (hb hby d1_32) (by decide) (by decide) k) ?_
  refine own_st (f' := (mkF m 13 #[.val (.ref r0), .val (.double (FP.l2d (((0 : Int64) + (w0).toInt64) + (w1).toInt64))), .second, .val (.ref r0), .val (.int (2 : Int32)), .val (.int (2 : Int32)), .val (.double (FP.l2d (w1).toInt64)), .second] [(.int (2 : Int32))])) (fun t k => XS.iload X0.her hx rfl (hb hby d1_11) rfl k) ?_
  refine own_st (f' := (mkF m 15 #[.val (.ref r0), .val (.double (FP.l2d (((0 : Int64) + (w0).toInt64) + (w1).toInt64))), .second, .val (.ref r0), .val (.int (2 : Int32)), .val (.int (2 : Int32)), .val (.double (FP.l2d (w1).toInt64)), .second] [(.int (2 : Int32)), (.int (2 : Int32))])) (fun t k => XS.iload X0.her hx rfl (hb hby d1_13) rfl k) ?_
  refine own_st (f' := (mkF m 35 #[.val (.ref r0), .val (.double (FP.l2d (((0 : Int64) + (w0).toInt64) + (w1).toInt64))), .second, .val (.ref r0), .val (.int (2 : Int32)), .val (.int (2 : Int32)), .val (.double (FP.l2d (w1).toInt64)), .second] [])) (fun t k => XS.icmpYes X0.her hx rfl (pc0 := 15) (pc' := 35) rfl (hb hby d1_15) rfl (flt (by simp : ¬ ((2 : Int32) < (2 : Int32)))).2.1 (by decide) (by decide) k) ?_
  refine own_st (f' := (mkF m 36 #[.val (.ref r0), .val (.double (FP.l2d (((0 : Int64) + (w0).toInt64) + (w1).toInt64))), .second, .val (.ref r0), .val (.int (2 : Int32)), .val (.int (2 : Int32)), .val (.double (FP.l2d (w1).toInt64)), .second] [(.double (FP.l2d (((0 : Int64) + (w0).toInt64) + (w1).toInt64)))])) (fun t k => XS.dloadN X0.her hx rfl (hb hby d1_35) rfl k) ?_
  refine own_st (f' := (mkF m 37 #[.val (.ref r0), .val (.double (FP.l2d (((0 : Int64) + (w0).toInt64) + (w1).toInt64))), .second, .val (.ref r0), .val (.int (2 : Int32)), .val (.int (2 : Int32)), .val (.double (FP.l2d (w1).toInt64)), .second] [(.ref r0), (.double (FP.l2d (((0 : Int64) + (w0).toInt64) + (w1).toInt64)))])) (fun t k => XS.aloadN X0.her hx rfl (hb hby d1_36) rfl rfl k) ?_
  refine own_dlen (n := (2 : Int32)) X0 hx hZ B0 (by show Nat.toInt32 2 = _; decide) (hb hby d1_37) ?_
  refine own_st (f' := (mkF m 39 #[.val (.ref r0), .val (.double (FP.l2d (((0 : Int64) + (w0).toInt64) + (w1).toInt64))), .second, .val (.ref r0), .val (.int (2 : Int32)), .val (.int (2 : Int32)), .val (.double (FP.l2d (w1).toInt64)), .second] [(.double (FP.l2d ((2 : Int32)).toInt64)), (.double (FP.l2d (((0 : Int64) + (w0).toInt64) + (w1).toInt64)))])) (fun t k => XS.i2dS X0.her hx rfl (hb hby d1_38) rfl (i2d_w _) k) ?_
  refine own_st (f' := (mkF m 40 #[.val (.ref r0), .val (.double (FP.l2d (((0 : Int64) + (w0).toInt64) + (w1).toInt64))), .second, .val (.ref r0), .val (.int (2 : Int32)), .val (.int (2 : Int32)), .val (.double (FP.l2d (w1).toInt64)), .second] [(.double (FP.ddiv (FP.l2d (((0 : Int64) + (w0).toInt64) + (w1).toInt64)) (FP.l2d ((2 : Int32)).toInt64)))])) (fun t k => XS.ddivS X0.her hx rfl (hb hby d1_39) rfl (own_ndiv _ (by unfold Nz64; decide +kernel)) rfl k) ?_
  refine own_retD X0 hx hret hlk (hb hby d1_40) (by first | decide | omega) (by first | decide | omega) ?_
  exact ⟨rfl, rfl⟩
set_option maxRecDepth 65536 in
set_option maxHeartbeats 40000000 in
theorem own_m3 (l : Launch) (Z : State) (a0 : Array Value) (hw : ∀ d ∈ tables_1, d.before a0 Z = true) (h0 : Heap) (n0 : Nat) (Z0 : n0 ≤ h0.size) (r0 : Addr) (w0 : Int32) (w1 : Int32) (w2 : Int32) (B0 : own_DA Z h0 r0 [(FP.l2d (w0).toInt64), (FP.l2d (w1).toInt64), (FP.l2d (w2).toInt64)]) :
    own_M l (⟨"com/example/bidwright/bidwright/tournament/Samples", "mean", "([D)D"⟩ : MethodName) prog_123_method_2_code 8 (some .double) [] ({ frames := 0, cells := 0, slots := 0, locals := 0 } : Room) Z #[(.ref r0)] h0 (own_Q n0 h0 [] (own_P (.double (FP.ddiv (FP.l2d ((((0 : Int64) + (w0).toInt64) + (w1).toInt64) + (w2).toInt64)) (FP.l2d (3 : Int32).toInt64))) h0)) := by
  refine own_body (plainFor_of_name own_pn0) ?_
  intro p e s m below meth c T0 X0 hx hby hml hown hnm hret hlk hZ
  refine own_cast (own_ef1 m r0) ?_
  refine own_st (f' := (mkF m 1 #[.val (.ref r0), .unset, .unset, .unset, .unset, .unset, .unset, .unset] [(.double (FP.l2d (0 : Int64)))])) (fun t k => XS.dconst0 X0.her hx rfl (hb hby d1_0) l2d_zero.symm k) ?_
  refine own_st (f' := (mkF m 2 #[.val (.ref r0), .val (.double (FP.l2d (0 : Int64))), .second, .unset, .unset, .unset, .unset, .unset] [])) (fun t k => XS.dstoreN X0.her hx rfl (hb hby d1_1) rfl (l' := #[.val (.ref r0), .val (.double (FP.l2d (0 : Int64))), .second, .unset, .unset, .unset, .unset, .unset]) rfl k) ?_
  refine own_st (f' := (mkF m 3 #[.val (.ref r0), .val (.double (FP.l2d (0 : Int64))), .second, .unset, .unset, .unset, .unset, .unset] [(.ref r0)])) (fun t k => XS.aloadN X0.her hx rfl (hb hby d1_2) rfl rfl k) ?_
  refine own_st (f' := (mkF m 4 #[.val (.ref r0), .val (.double (FP.l2d (0 : Int64))), .second, .val (.ref r0), .unset, .unset, .unset, .unset] [])) (fun t k => XS.astoreN X0.her hx rfl (hb hby d1_3) rfl rfl (l' := #[.val (.ref r0), .val (.double (FP.l2d (0 : Int64))), .second, .val (.ref r0), .unset, .unset, .unset, .unset]) rfl k) ?_
  refine own_st (f' := (mkF m 5 #[.val (.ref r0), .val (.double (FP.l2d (0 : Int64))), .second, .val (.ref r0), .unset, .unset, .unset, .unset] [(.ref r0)])) (fun t k => XS.aloadN X0.her hx rfl (hb hby d1_4) rfl rfl k) ?_
  refine own_dlen (n := (3 : Int32)) X0 hx hZ B0 (by show Nat.toInt32 3 = _; decide) (hb hby d1_5) ?_
  refine own_st (f' := (mkF m 8 #[.val (.ref r0), .val (.double (FP.l2d (0 : Int64))), .second, .val (.ref r0), .val (.int (3 : Int32)), .unset, .unset, .unset] [])) (fun t k => XS.istore X0.her hx rfl (hb hby d1_6) rfl (l' := #[.val (.ref r0), .val (.double (FP.l2d (0 : Int64))), .second, .val (.ref r0), .val (.int (3 : Int32)), .unset, .unset, .unset]) rfl k) ?_
  refine own_st (f' := (mkF m 9 #[.val (.ref r0), .val (.double (FP.l2d (0 : Int64))), .second, .val (.ref r0), .val (.int (3 : Int32)), .unset, .unset, .unset] [(.int (0 : Int32))])) (fun t k => XS.iconst X0.her hx rfl (hb hby d1_8) k) ?_
  refine own_st (f' := (mkF m 11 #[.val (.ref r0), .val (.double (FP.l2d (0 : Int64))), .second, .val (.ref r0), .val (.int (3 : Int32)), .val (.int (0 : Int32)), .unset, .unset] [])) (fun t k => XS.istore X0.her hx rfl (hb hby d1_9) rfl (l' := #[.val (.ref r0), .val (.double (FP.l2d (0 : Int64))), .second, .val (.ref r0), .val (.int (3 : Int32)), .val (.int (0 : Int32)), .unset, .unset]) rfl k) ?_
  refine own_st (f' := (mkF m 13 #[.val (.ref r0), .val (.double (FP.l2d (0 : Int64))), .second, .val (.ref r0), .val (.int (3 : Int32)), .val (.int (0 : Int32)), .unset, .unset] [(.int (0 : Int32))])) (fun t k => XS.iload X0.her hx rfl (hb hby d1_11) rfl k) ?_
  refine own_st (f' := (mkF m 15 #[.val (.ref r0), .val (.double (FP.l2d (0 : Int64))), .second, .val (.ref r0), .val (.int (3 : Int32)), .val (.int (0 : Int32)), .unset, .unset] [(.int (3 : Int32)), (.int (0 : Int32))])) (fun t k => XS.iload X0.her hx rfl (hb hby d1_13) rfl k) ?_
  refine own_st (f' := (mkF m 18 #[.val (.ref r0), .val (.double (FP.l2d (0 : Int64))), .second, .val (.ref r0), .val (.int (3 : Int32)), .val (.int (0 : Int32)), .unset, .unset] [])) (fun t k => XS.icmpNo X0.her hx rfl (hb hby d1_15) rfl (tlt (by decide : (0 : Int32) < (3 : Int32))).2.1 k) ?_
  refine own_st (f' := (mkF m 19 #[.val (.ref r0), .val (.double (FP.l2d (0 : Int64))), .second, .val (.ref r0), .val (.int (3 : Int32)), .val (.int (0 : Int32)), .unset, .unset] [(.ref r0)])) (fun t k => XS.aloadN X0.her hx rfl (hb hby d1_18) rfl rfl k) ?_
  refine own_st (f' := (mkF m 21 #[.val (.ref r0), .val (.double (FP.l2d (0 : Int64))), .second, .val (.ref r0), .val (.int (3 : Int32)), .val (.int (0 : Int32)), .unset, .unset] [(.int (0 : Int32)), (.ref r0)])) (fun t k => XS.iload X0.her hx rfl (hb hby d1_19) rfl k) ?_
  refine own_dload (v := (FP.l2d (w0).toInt64)) X0 hx hZ B0 (by decide) rfl (hb hby d1_21) ?_
  refine own_st (f' := (mkF m 24 #[.val (.ref r0), .val (.double (FP.l2d (0 : Int64))), .second, .val (.ref r0), .val (.int (3 : Int32)), .val (.int (0 : Int32)), .val (.double (FP.l2d (w0).toInt64)), .second] [])) (fun t k => XS.dstore X0.her hx rfl (hb hby d1_22) rfl (l' := #[.val (.ref r0), .val (.double (FP.l2d (0 : Int64))), .second, .val (.ref r0), .val (.int (3 : Int32)), .val (.int (0 : Int32)), .val (.double (FP.l2d (w0).toInt64)), .second]) rfl k) ?_
  refine own_st (f' := (mkF m 25 #[.val (.ref r0), .val (.double (FP.l2d (0 : Int64))), .second, .val (.ref r0), .val (.int (3 : Int32)), .val (.int (0 : Int32)), .val (.double (FP.l2d (w0).toInt64)), .second] [(.double (FP.l2d (0 : Int64)))])) (fun t k => XS.dloadN X0.her hx rfl (hb hby d1_24) rfl k) ?_
  refine own_st (f' := (mkF m 27 #[.val (.ref r0), .val (.double (FP.l2d (0 : Int64))), .second, .val (.ref r0), .val (.int (3 : Int32)), .val (.int (0 : Int32)), .val (.double (FP.l2d (w0).toInt64)), .second] [(.double (FP.l2d (w0).toInt64)), (.double (FP.l2d (0 : Int64)))])) (fun t k => XS.dload X0.her hx rfl (hb hby d1_25) rfl k) ?_
  refine own_st (f' := (mkF m 28 #[.val (.ref r0), .val (.double (FP.l2d (0 : Int64))), .second, .val (.ref r0), .val (.int (3 : Int32)), .val (.int (0 : Int32)), .val (.double (FP.l2d (w0).toInt64)), .second] [(.double (FP.l2d ((0 : Int64) + (w0).toInt64)))])) (fun t k => XS.daddS X0.her hx rfl (hb hby d1_27) rfl (own_nadd (own_smb (k := 0) (by decide) own_sm0) (own_smb (k := 1) (by decide) (own_sm1 _))) (dadd_w (own_smb (k := 0) (by decide) own_sm0) (own_smb (k := 1) (by decide) (own_sm1 _))) k) ?_
  refine own_st (f' := (mkF m 29 #[.val (.ref r0), .val (.double (FP.l2d ((0 : Int64) + (w0).toInt64))), .second, .val (.ref r0), .val (.int (3 : Int32)), .val (.int (0 : Int32)), .val (.double (FP.l2d (w0).toInt64)), .second] [])) (fun t k => XS.dstoreN X0.her hx rfl (hb hby d1_28) rfl (l' := #[.val (.ref r0), .val (.double (FP.l2d ((0 : Int64) + (w0).toInt64))), .second, .val (.ref r0), .val (.int (3 : Int32)), .val (.int (0 : Int32)), .val (.double (FP.l2d (w0).toInt64)), .second]) rfl k) ?_
  refine own_st (f' := (mkF m 32 #[.val (.ref r0), .val (.double (FP.l2d ((0 : Int64) + (w0).toInt64))), .second, .val (.ref r0), .val (.int (3 : Int32)), .val (.int (1 : Int32)), .val (.double (FP.l2d (w0).toInt64)), .second] [])) (fun t k => XS.iinc X0.her hx rfl (hb hby d1_29) rfl (l' := #[.val (.ref r0), .val (.double (FP.l2d ((0 : Int64) + (w0).toInt64))), .second, .val (.ref r0), .val (.int (3 : Int32)), .val (.int (1 : Int32)), .val (.double (FP.l2d (w0).toInt64)), .second]) rfl k) ?_
  refine own_st (f' := (mkF m 11 #[.val (.ref r0), .val (.double (FP.l2d ((0 : Int64) + (w0).toInt64))), .second, .val (.ref r0), .val (.int (3 : Int32)), .val (.int (1 : Int32)), .val (.double (FP.l2d (w0).toInt64)), .second] [])) (fun t k => XS.goto X0.her hx rfl (pc0 := 32) (pc' := 11) rfl (hb hby d1_32) (by decide) (by decide) k) ?_
  refine own_st (f' := (mkF m 13 #[.val (.ref r0), .val (.double (FP.l2d ((0 : Int64) + (w0).toInt64))), .second, .val (.ref r0), .val (.int (3 : Int32)), .val (.int (1 : Int32)), .val (.double (FP.l2d (w0).toInt64)), .second] [(.int (1 : Int32))])) (fun t k => XS.iload X0.her hx rfl (hb hby d1_11) rfl k) ?_
  refine own_st (f' := (mkF m 15 #[.val (.ref r0), .val (.double (FP.l2d ((0 : Int64) + (w0).toInt64))), .second, .val (.ref r0), .val (.int (3 : Int32)), .val (.int (1 : Int32)), .val (.double (FP.l2d (w0).toInt64)), .second] [(.int (3 : Int32)), (.int (1 : Int32))])) (fun t k => XS.iload X0.her hx rfl (hb hby d1_13) rfl k) ?_
  refine own_st (f' := (mkF m 18 #[.val (.ref r0), .val (.double (FP.l2d ((0 : Int64) + (w0).toInt64))), .second, .val (.ref r0), .val (.int (3 : Int32)), .val (.int (1 : Int32)), .val (.double (FP.l2d (w0).toInt64)), .second] [])) (fun t k => XS.icmpNo X0.her hx rfl (hb hby d1_15) rfl (tlt (by decide : (1 : Int32) < (3 : Int32))).2.1 k) ?_
  refine own_st (f' := (mkF m 19 #[.val (.ref r0), .val (.double (FP.l2d ((0 : Int64) + (w0).toInt64))), .second, .val (.ref r0), .val (.int (3 : Int32)), .val (.int (1 : Int32)), .val (.double (FP.l2d (w0).toInt64)), .second] [(.ref r0)])) (fun t k => XS.aloadN X0.her hx rfl (hb hby d1_18) rfl rfl k) ?_
  refine own_st (f' := (mkF m 21 #[.val (.ref r0), .val (.double (FP.l2d ((0 : Int64) + (w0).toInt64))), .second, .val (.ref r0), .val (.int (3 : Int32)), .val (.int (1 : Int32)), .val (.double (FP.l2d (w0).toInt64)), .second] [(.int (1 : Int32)), (.ref r0)])) (fun t k => XS.iload X0.her hx rfl (hb hby d1_19) rfl k) ?_
  refine own_dload (v := (FP.l2d (w1).toInt64)) X0 hx hZ B0 (by decide) rfl (hb hby d1_21) ?_
  refine own_st (f' := (mkF m 24 #[.val (.ref r0), .val (.double (FP.l2d ((0 : Int64) + (w0).toInt64))), .second, .val (.ref r0), .val (.int (3 : Int32)), .val (.int (1 : Int32)), .val (.double (FP.l2d (w1).toInt64)), .second] [])) (fun t k => XS.dstore X0.her hx rfl (hb hby d1_22) rfl (l' := #[.val (.ref r0), .val (.double (FP.l2d ((0 : Int64) + (w0).toInt64))), .second, .val (.ref r0), .val (.int (3 : Int32)), .val (.int (1 : Int32)), .val (.double (FP.l2d (w1).toInt64)), .second]) rfl k) ?_
  refine own_st (f' := (mkF m 25 #[.val (.ref r0), .val (.double (FP.l2d ((0 : Int64) + (w0).toInt64))), .second, .val (.ref r0), .val (.int (3 : Int32)), .val (.int (1 : Int32)), .val (.double (FP.l2d (w1).toInt64)), .second] [(.double (FP.l2d ((0 : Int64) + (w0).toInt64)))])) (fun t k => XS.dloadN X0.her hx rfl (hb hby d1_24) rfl k) ?_
  refine own_st (f' := (mkF m 27 #[.val (.ref r0), .val (.double (FP.l2d ((0 : Int64) + (w0).toInt64))), .second, .val (.ref r0), .val (.int (3 : Int32)), .val (.int (1 : Int32)), .val (.double (FP.l2d (w1).toInt64)), .second] [(.double (FP.l2d (w1).toInt64)), (.double (FP.l2d ((0 : Int64) + (w0).toInt64)))])) (fun t k => XS.dload X0.her hx rfl (hb hby d1_25) rfl k) ?_
  refine own_st (f' := (mkF m 28 #[.val (.ref r0), .val (.double (FP.l2d ((0 : Int64) + (w0).toInt64))), .second, .val (.ref r0), .val (.int (3 : Int32)), .val (.int (1 : Int32)), .val (.double (FP.l2d (w1).toInt64)), .second] [(.double (FP.l2d (((0 : Int64) + (w0).toInt64) + (w1).toInt64)))])) (fun t k => XS.daddS X0.her hx rfl (hb hby d1_27) rfl (own_nadd (own_smb (k := 1) (by decide) (own_sm_add (by decide) own_sm0 _)) (own_smb (k := 1) (by decide) (own_sm1 _))) (dadd_w (own_smb (k := 1) (by decide) (own_sm_add (by decide) own_sm0 _)) (own_smb (k := 1) (by decide) (own_sm1 _))) k) ?_
  refine own_st (f' := (mkF m 29 #[.val (.ref r0), .val (.double (FP.l2d (((0 : Int64) + (w0).toInt64) + (w1).toInt64))), .second, .val (.ref r0), .val (.int (3 : Int32)), .val (.int (1 : Int32)), .val (.double (FP.l2d (w1).toInt64)), .second] [])) (fun t k => XS.dstoreN X0.her hx rfl (hb hby d1_28) rfl (l' := #[.val (.ref r0), .val (.double (FP.l2d (((0 : Int64) + (w0).toInt64) + (w1).toInt64))), .second, .val (.ref r0), .val (.int (3 : Int32)), .val (.int (1 : Int32)), .val (.double (FP.l2d (w1).toInt64)), .second]) rfl k) ?_
  refine own_st (f' := (mkF m 32 #[.val (.ref r0), .val (.double (FP.l2d (((0 : Int64) + (w0).toInt64) + (w1).toInt64))), .second, .val (.ref r0), .val (.int (3 : Int32)), .val (.int (2 : Int32)), .val (.double (FP.l2d (w1).toInt64)), .second] [])) (fun t k => XS.iinc X0.her hx rfl (hb hby d1_29) rfl (l' := #[.val (.ref r0), .val (.double (FP.l2d (((0 : Int64) + (w0).toInt64) + (w1).toInt64))), .second, .val (.ref r0), .val (.int (3 : Int32)), .val (.int (2 : Int32)), .val (.double (FP.l2d (w1).toInt64)), .second]) rfl k) ?_
  refine own_st (f' := (mkF m 11 #[.val (.ref r0), .val (.double (FP.l2d (((0 : Int64) + (w0).toInt64) + (w1).toInt64))), .second, .val (.ref r0), .val (.int (3 : Int32)), .val (.int (2 : Int32)), .val (.double (FP.l2d (w1).toInt64)), .second] [])) (fun t k => XS.goto X0.her hx rfl (pc0 := 32) (pc' := 11) rfl (hb hby d1_32) (by decide) (by decide) k) ?_
  refine own_st (f' := (mkF m 13 #[.val (.ref r0), .val (.double (FP.l2d (((0 : Int64) + (w0).toInt64) + (w1).toInt64))), .second, .val (.ref r0), .val (.int (3 : Int32)), .val (.int (2 : Int32)), .val (.double (FP.l2d (w1).toInt64)), .second] [(.int (2 : Int32))])) (fun t k => XS.iload X0.her hx rfl (hb hby d1_11) rfl k) ?_
  refine own_st (f' := (mkF m 15 #[.val (.ref r0), .val (.double (FP.l2d (((0 : Int64) + (w0).toInt64) + (w1).toInt64))), .second, .val (.ref r0), .val (.int (3 : Int32)), .val (.int (2 : Int32)), .val (.double (FP.l2d (w1).toInt64)), .second] [(.int (3 : Int32)), (.int (2 : Int32))])) (fun t k => XS.iload X0.her hx rfl (hb hby d1_13) rfl k) ?_
  refine own_st (f' := (mkF m 18 #[.val (.ref r0), .val (.double (FP.l2d (((0 : Int64) + (w0).toInt64) + (w1).toInt64))), .second, .val (.ref r0), .val (.int (3 : Int32)), .val (.int (2 : Int32)), .val (.double (FP.l2d (w1).toInt64)), .second] [])) (fun t k => XS.icmpNo X0.her hx rfl (hb hby d1_15) rfl (tlt (by decide : (2 : Int32) < (3 : Int32))).2.1 k) ?_
  refine own_st (f' := (mkF m 19 #[.val (.ref r0), .val (.double (FP.l2d (((0 : Int64) + (w0).toInt64) + (w1).toInt64))), .second, .val (.ref r0), .val (.int (3 : Int32)), .val (.int (2 : Int32)), .val (.double (FP.l2d (w1).toInt64)), .second] [(.ref r0)])) (fun t k => XS.aloadN X0.her hx rfl (hb hby d1_18) rfl rfl k) ?_
  refine own_st (f' := (mkF m 21 #[.val (.ref r0), .val (.double (FP.l2d (((0 : Int64) + (w0).toInt64) + (w1).toInt64))), .second, .val (.ref r0), .val (.int (3 : Int32)), .val (.int (2 : Int32)), .val (.double (FP.l2d (w1).toInt64)), .second] [(.int (2 : Int32)), (.ref r0)])) (fun t k => XS.iload X0.her hx rfl (hb hby d1_19) rfl k) ?_
  refine own_dload (v := (FP.l2d (w2).toInt64)) X0 hx hZ B0 (by decide) rfl (hb hby d1_21) ?_
  refine own_st (f' := (mkF m 24 #[.val (.ref r0), .val (.double (FP.l2d (((0 : Int64) + (w0).toInt64) + (w1).toInt64))), .second, .val (.ref r0), .val (.int (3 : Int32)), .val (.int (2 : Int32)), .val (.double (FP.l2d (w2).toInt64)), .second] [])) (fun t k => XS.dstore X0.her hx rfl (hb hby d1_22) rfl (l' := #[.val (.ref r0), .val (.double (FP.l2d (((0 : Int64) + (w0).toInt64) + (w1).toInt64))), .second, .val (.ref r0), .val (.int (3 : Int32)), .val (.int (2 : Int32)), .val (.double (FP.l2d (w2).toInt64)), .second]) rfl k) ?_
  refine own_st (f' := (mkF m 25 #[.val (.ref r0), .val (.double (FP.l2d (((0 : Int64) + (w0).toInt64) + (w1).toInt64))), .second, .val (.ref r0), .val (.int (3 : Int32)), .val (.int (2 : Int32)), .val (.double (FP.l2d (w2).toInt64)), .second] [(.double (FP.l2d (((0 : Int64) + (w0).toInt64) + (w1).toInt64)))])) (fun t k => XS.dloadN X0.her hx rfl (hb hby d1_24) rfl k) ?_
  refine own_st (f' := (mkF m 27 #[.val (.ref r0), .val (.double (FP.l2d (((0 : Int64) + (w0).toInt64) + (w1).toInt64))), .second, .val (.ref r0), .val (.int (3 : Int32)), .val (.int (2 : Int32)), .val (.double (FP.l2d (w2).toInt64)), .second] [(.double (FP.l2d (w2).toInt64)), (.double (FP.l2d (((0 : Int64) + (w0).toInt64) + (w1).toInt64)))])) (fun t k => XS.dload X0.her hx rfl (hb hby d1_25) rfl k) ?_
  refine own_st (f' := (mkF m 28 #[.val (.ref r0), .val (.double (FP.l2d (((0 : Int64) + (w0).toInt64) + (w1).toInt64))), .second, .val (.ref r0), .val (.int (3 : Int32)), .val (.int (2 : Int32)), .val (.double (FP.l2d (w2).toInt64)), .second] [(.double (FP.l2d ((((0 : Int64) + (w0).toInt64) + (w1).toInt64) + (w2).toInt64)))])) (fun t k => XS.daddS X0.her hx rfl (hb hby d1_27) rfl (own_nadd (own_smb (k := 2) (by decide) (own_sm_add (by decide) (own_sm_add (by decide) own_sm0 _) _)) (own_smb (k := 1) (by decide) (own_sm1 _))) (dadd_w (own_smb (k := 2) (by decide) (own_sm_add (by decide) (own_sm_add (by decide) own_sm0 _) _)) (own_smb (k := 1) (by decide) (own_sm1 _))) k) ?_
  refine own_st (f' := (mkF m 29 #[.val (.ref r0), .val (.double (FP.l2d ((((0 : Int64) + (w0).toInt64) + (w1).toInt64) + (w2).toInt64))), .second, .val (.ref r0), .val (.int (3 : Int32)), .val (.int (2 : Int32)), .val (.double (FP.l2d (w2).toInt64)), .second] [])) (fun t k => XS.dstoreN X0.her hx rfl (hb hby d1_28) rfl (l' := #[.val (.ref r0), .val (.double (FP.l2d ((((0 : Int64) + (w0).toInt64) + (w1).toInt64) + (w2).toInt64))), .second, .val (.ref r0), .val (.int (3 : Int32)), .val (.int (2 : Int32)), .val (.double (FP.l2d (w2).toInt64)), .second]) rfl k) ?_
  refine own_st (f' := (mkF m 32 #[.val (.ref r0), .val (.double (FP.l2d ((((0 : Int64) + (w0).toInt64) + (w1).toInt64) + (w2).toInt64))), .second, .val (.ref r0), .val (.int (3 : Int32)), .val (.int (3 : Int32)), .val (.double (FP.l2d (w2).toInt64)), .second] [])) (fun t k => XS.iinc X0.her hx rfl (hb hby d1_29) rfl (l' := #[.val (.ref r0), .val (.double (FP.l2d ((((0 : Int64) + (w0).toInt64) + (w1).toInt64) + (w2).toInt64))), .second, .val (.ref r0), .val (.int (3 : Int32)), .val (.int (3 : Int32)), .val (.double (FP.l2d (w2).toInt64)), .second]) rfl k) ?_
  refine own_st (f' := (mkF m 11 #[.val (.ref r0), .val (.double (FP.l2d ((((0 : Int64) + (w0).toInt64) + (w1).toInt64) + (w2).toInt64))), .second, .val (.ref r0), .val (.int (3 : Int32)), .val (.int (3 : Int32)), .val (.double (FP.l2d (w2).toInt64)), .second] [])) (fun t k => XS.goto X0.her hx rfl (pc0 := 32) (pc' := 11) rfl (hb hby d1_32) (by decide) (by decide) k) ?_
  refine own_st (f' := (mkF m 13 #[.val (.ref r0), .val (.double (FP.l2d ((((0 : Int64) + (w0).toInt64) + (w1).toInt64) + (w2).toInt64))), .second, .val (.ref r0), .val (.int (3 : Int32)), .val (.int (3 : Int32)), .val (.double (FP.l2d (w2).toInt64)), .second] [(.int (3 : Int32))])) (fun t k => XS.iload X0.her hx rfl (hb hby d1_11) rfl k) ?_
  refine own_st (f' := (mkF m 15 #[.val (.ref r0), .val (.double (FP.l2d ((((0 : Int64) + (w0).toInt64) + (w1).toInt64) + (w2).toInt64))), .second, .val (.ref r0), .val (.int (3 : Int32)), .val (.int (3 : Int32)), .val (.double (FP.l2d (w2).toInt64)), .second] [(.int (3 : Int32)), (.int (3 : Int32))])) (fun t k => XS.iload X0.her hx rfl (hb hby d1_13) rfl k) ?_
  refine own_st (f' := (mkF m 35 #[.val (.ref r0), .val (.double (FP.l2d ((((0 : Int64) + (w0).toInt64) + (w1).toInt64) + (w2).toInt64))), .second, .val (.ref r0), .val (.int (3 : Int32)), .val (.int (3 : Int32)), .val (.double (FP.l2d (w2).toInt64)), .second] [])) (fun t k => XS.icmpYes X0.her hx rfl (pc0 := 15) (pc' := 35) rfl (hb hby d1_15) rfl (flt (by simp : ¬ ((3 : Int32) < (3 : Int32)))).2.1 (by decide) (by decide) k) ?_
  refine own_st (f' := (mkF m 36 #[.val (.ref r0), .val (.double (FP.l2d ((((0 : Int64) + (w0).toInt64) + (w1).toInt64) + (w2).toInt64))), .second, .val (.ref r0), .val (.int (3 : Int32)), .val (.int (3 : Int32)), .val (.double (FP.l2d (w2).toInt64)), .second] [(.double (FP.l2d ((((0 : Int64) + (w0).toInt64) + (w1).toInt64) + (w2).toInt64)))])) (fun t k => XS.dloadN X0.her hx rfl (hb hby d1_35) rfl k) ?_
  refine own_st (f' := (mkF m 37 #[.val (.ref r0), .val (.double (FP.l2d ((((0 : Int64) + (w0).toInt64) + (w1).toInt64) + (w2).toInt64))), .second, .val (.ref r0), .val (.int (3 : Int32)), .val (.int (3 : Int32)), .val (.double (FP.l2d (w2).toInt64)), .second] [(.ref r0), (.double (FP.l2d ((((0 : Int64) + (w0).toInt64) + (w1).toInt64) + (w2).toInt64)))])) (fun t k => XS.aloadN X0.her hx rfl (hb hby d1_36) rfl rfl k) ?_
  refine own_dlen (n := (3 : Int32)) X0 hx hZ B0 (by show Nat.toInt32 3 = _; decide) (hb hby d1_37) ?_
  refine own_st (f' := (mkF m 39 #[.val (.ref r0), .val (.double (FP.l2d ((((0 : Int64) + (w0).toInt64) + (w1).toInt64) + (w2).toInt64))), .second, .val (.ref r0), .val (.int (3 : Int32)), .val (.int (3 : Int32)), .val (.double (FP.l2d (w2).toInt64)), .second] [(.double (FP.l2d ((3 : Int32)).toInt64)), (.double (FP.l2d ((((0 : Int64) + (w0).toInt64) + (w1).toInt64) + (w2).toInt64)))])) (fun t k => XS.i2dS X0.her hx rfl (hb hby d1_38) rfl (i2d_w _) k) ?_
  refine own_st (f' := (mkF m 40 #[.val (.ref r0), .val (.double (FP.l2d ((((0 : Int64) + (w0).toInt64) + (w1).toInt64) + (w2).toInt64))), .second, .val (.ref r0), .val (.int (3 : Int32)), .val (.int (3 : Int32)), .val (.double (FP.l2d (w2).toInt64)), .second] [(.double (FP.ddiv (FP.l2d ((((0 : Int64) + (w0).toInt64) + (w1).toInt64) + (w2).toInt64)) (FP.l2d ((3 : Int32)).toInt64)))])) (fun t k => XS.ddivS X0.her hx rfl (hb hby d1_39) rfl (own_ndiv _ (by unfold Nz64; decide +kernel)) rfl k) ?_
  refine own_retD X0 hx hret hlk (hb hby d1_40) (by first | decide | omega) (by first | decide | omega) ?_
  exact ⟨rfl, rfl⟩
set_option maxRecDepth 65536 in
set_option maxHeartbeats 40000000 in
theorem own_m4 (l : Launch) (Z : State) (a0 : Array Value) (hw : ∀ d ∈ tables_1, d.before a0 Z = true) (h0 : Heap) (n0 : Nat) (Z0 : n0 ≤ h0.size) (r0 : Addr) (w0 : Int32) (w1 : Int32) (w2 : Int32) (w3 : Int32) (B0 : own_DA Z h0 r0 [(FP.l2d (w0).toInt64), (FP.l2d (w1).toInt64), (FP.l2d (w2).toInt64), (FP.l2d (w3).toInt64)]) :
    own_M l (⟨"com/example/bidwright/bidwright/tournament/Samples", "mean", "([D)D"⟩ : MethodName) prog_123_method_2_code 8 (some .double) [] ({ frames := 0, cells := 0, slots := 0, locals := 0 } : Room) Z #[(.ref r0)] h0 (own_Q n0 h0 [] (own_P (.double (FP.ddiv (FP.l2d (((((0 : Int64) + (w0).toInt64) + (w1).toInt64) + (w2).toInt64) + (w3).toInt64)) (FP.l2d (4 : Int32).toInt64))) h0)) := by
  refine own_body (plainFor_of_name own_pn0) ?_
  intro p e s m below meth c T0 X0 hx hby hml hown hnm hret hlk hZ
  refine own_cast (own_ef1 m r0) ?_
  refine own_st (f' := (mkF m 1 #[.val (.ref r0), .unset, .unset, .unset, .unset, .unset, .unset, .unset] [(.double (FP.l2d (0 : Int64)))])) (fun t k => XS.dconst0 X0.her hx rfl (hb hby d1_0) l2d_zero.symm k) ?_
  refine own_st (f' := (mkF m 2 #[.val (.ref r0), .val (.double (FP.l2d (0 : Int64))), .second, .unset, .unset, .unset, .unset, .unset] [])) (fun t k => XS.dstoreN X0.her hx rfl (hb hby d1_1) rfl (l' := #[.val (.ref r0), .val (.double (FP.l2d (0 : Int64))), .second, .unset, .unset, .unset, .unset, .unset]) rfl k) ?_
  refine own_st (f' := (mkF m 3 #[.val (.ref r0), .val (.double (FP.l2d (0 : Int64))), .second, .unset, .unset, .unset, .unset, .unset] [(.ref r0)])) (fun t k => XS.aloadN X0.her hx rfl (hb hby d1_2) rfl rfl k) ?_
  refine own_st (f' := (mkF m 4 #[.val (.ref r0), .val (.double (FP.l2d (0 : Int64))), .second, .val (.ref r0), .unset, .unset, .unset, .unset] [])) (fun t k => XS.astoreN X0.her hx rfl (hb hby d1_3) rfl rfl (l' := #[.val (.ref r0), .val (.double (FP.l2d (0 : Int64))), .second, .val (.ref r0), .unset, .unset, .unset, .unset]) rfl k) ?_
  refine own_st (f' := (mkF m 5 #[.val (.ref r0), .val (.double (FP.l2d (0 : Int64))), .second, .val (.ref r0), .unset, .unset, .unset, .unset] [(.ref r0)])) (fun t k => XS.aloadN X0.her hx rfl (hb hby d1_4) rfl rfl k) ?_
  refine own_dlen (n := (4 : Int32)) X0 hx hZ B0 (by show Nat.toInt32 4 = _; decide) (hb hby d1_5) ?_
  refine own_st (f' := (mkF m 8 #[.val (.ref r0), .val (.double (FP.l2d (0 : Int64))), .second, .val (.ref r0), .val (.int (4 : Int32)), .unset, .unset, .unset] [])) (fun t k => XS.istore X0.her hx rfl (hb hby d1_6) rfl (l' := #[.val (.ref r0), .val (.double (FP.l2d (0 : Int64))), .second, .val (.ref r0), .val (.int (4 : Int32)), .unset, .unset, .unset]) rfl k) ?_
  refine own_st (f' := (mkF m 9 #[.val (.ref r0), .val (.double (FP.l2d (0 : Int64))), .second, .val (.ref r0), .val (.int (4 : Int32)), .unset, .unset, .unset] [(.int (0 : Int32))])) (fun t k => XS.iconst X0.her hx rfl (hb hby d1_8) k) ?_
  refine own_st (f' := (mkF m 11 #[.val (.ref r0), .val (.double (FP.l2d (0 : Int64))), .second, .val (.ref r0), .val (.int (4 : Int32)), .val (.int (0 : Int32)), .unset, .unset] [])) (fun t k => XS.istore X0.her hx rfl (hb hby d1_9) rfl (l' := #[.val (.ref r0), .val (.double (FP.l2d (0 : Int64))), .second, .val (.ref r0), .val (.int (4 : Int32)), .val (.int (0 : Int32)), .unset, .unset]) rfl k) ?_
  refine own_st (f' := (mkF m 13 #[.val (.ref r0), .val (.double (FP.l2d (0 : Int64))), .second, .val (.ref r0), .val (.int (4 : Int32)), .val (.int (0 : Int32)), .unset, .unset] [(.int (0 : Int32))])) (fun t k => XS.iload X0.her hx rfl (hb hby d1_11) rfl k) ?_
  refine own_st (f' := (mkF m 15 #[.val (.ref r0), .val (.double (FP.l2d (0 : Int64))), .second, .val (.ref r0), .val (.int (4 : Int32)), .val (.int (0 : Int32)), .unset, .unset] [(.int (4 : Int32)), (.int (0 : Int32))])) (fun t k => XS.iload X0.her hx rfl (hb hby d1_13) rfl k) ?_
  refine own_st (f' := (mkF m 18 #[.val (.ref r0), .val (.double (FP.l2d (0 : Int64))), .second, .val (.ref r0), .val (.int (4 : Int32)), .val (.int (0 : Int32)), .unset, .unset] [])) (fun t k => XS.icmpNo X0.her hx rfl (hb hby d1_15) rfl (tlt (by decide : (0 : Int32) < (4 : Int32))).2.1 k) ?_
  refine own_st (f' := (mkF m 19 #[.val (.ref r0), .val (.double (FP.l2d (0 : Int64))), .second, .val (.ref r0), .val (.int (4 : Int32)), .val (.int (0 : Int32)), .unset, .unset] [(.ref r0)])) (fun t k => XS.aloadN X0.her hx rfl (hb hby d1_18) rfl rfl k) ?_
  refine own_st (f' := (mkF m 21 #[.val (.ref r0), .val (.double (FP.l2d (0 : Int64))), .second, .val (.ref r0), .val (.int (4 : Int32)), .val (.int (0 : Int32)), .unset, .unset] [(.int (0 : Int32)), (.ref r0)])) (fun t k => XS.iload X0.her hx rfl (hb hby d1_19) rfl k) ?_
  refine own_dload (v := (FP.l2d (w0).toInt64)) X0 hx hZ B0 (by decide) rfl (hb hby d1_21) ?_
  refine own_st (f' := (mkF m 24 #[.val (.ref r0), .val (.double (FP.l2d (0 : Int64))), .second, .val (.ref r0), .val (.int (4 : Int32)), .val (.int (0 : Int32)), .val (.double (FP.l2d (w0).toInt64)), .second] [])) (fun t k => XS.dstore X0.her hx rfl (hb hby d1_22) rfl (l' := #[.val (.ref r0), .val (.double (FP.l2d (0 : Int64))), .second, .val (.ref r0), .val (.int (4 : Int32)), .val (.int (0 : Int32)), .val (.double (FP.l2d (w0).toInt64)), .second]) rfl k) ?_
  refine own_st (f' := (mkF m 25 #[.val (.ref r0), .val (.double (FP.l2d (0 : Int64))), .second, .val (.ref r0), .val (.int (4 : Int32)), .val (.int (0 : Int32)), .val (.double (FP.l2d (w0).toInt64)), .second] [(.double (FP.l2d (0 : Int64)))])) (fun t k => XS.dloadN X0.her hx rfl (hb hby d1_24) rfl k) ?_
  refine own_st (f' := (mkF m 27 #[.val (.ref r0), .val (.double (FP.l2d (0 : Int64))), .second, .val (.ref r0), .val (.int (4 : Int32)), .val (.int (0 : Int32)), .val (.double (FP.l2d (w0).toInt64)), .second] [(.double (FP.l2d (w0).toInt64)), (.double (FP.l2d (0 : Int64)))])) (fun t k => XS.dload X0.her hx rfl (hb hby d1_25) rfl k) ?_
  refine own_st (f' := (mkF m 28 #[.val (.ref r0), .val (.double (FP.l2d (0 : Int64))), .second, .val (.ref r0), .val (.int (4 : Int32)), .val (.int (0 : Int32)), .val (.double (FP.l2d (w0).toInt64)), .second] [(.double (FP.l2d ((0 : Int64) + (w0).toInt64)))])) (fun t k => XS.daddS X0.her hx rfl (hb hby d1_27) rfl (own_nadd (own_smb (k := 0) (by decide) own_sm0) (own_smb (k := 1) (by decide) (own_sm1 _))) (dadd_w (own_smb (k := 0) (by decide) own_sm0) (own_smb (k := 1) (by decide) (own_sm1 _))) k) ?_
  refine own_st (f' := (mkF m 29 #[.val (.ref r0), .val (.double (FP.l2d ((0 : Int64) + (w0).toInt64))), .second, .val (.ref r0), .val (.int (4 : Int32)), .val (.int (0 : Int32)), .val (.double (FP.l2d (w0).toInt64)), .second] [])) (fun t k => XS.dstoreN X0.her hx rfl (hb hby d1_28) rfl (l' := #[.val (.ref r0), .val (.double (FP.l2d ((0 : Int64) + (w0).toInt64))), .second, .val (.ref r0), .val (.int (4 : Int32)), .val (.int (0 : Int32)), .val (.double (FP.l2d (w0).toInt64)), .second]) rfl k) ?_
  refine own_st (f' := (mkF m 32 #[.val (.ref r0), .val (.double (FP.l2d ((0 : Int64) + (w0).toInt64))), .second, .val (.ref r0), .val (.int (4 : Int32)), .val (.int (1 : Int32)), .val (.double (FP.l2d (w0).toInt64)), .second] [])) (fun t k => XS.iinc X0.her hx rfl (hb hby d1_29) rfl (l' := #[.val (.ref r0), .val (.double (FP.l2d ((0 : Int64) + (w0).toInt64))), .second, .val (.ref r0), .val (.int (4 : Int32)), .val (.int (1 : Int32)), .val (.double (FP.l2d (w0).toInt64)), .second]) rfl k) ?_
  refine own_st (f' := (mkF m 11 #[.val (.ref r0), .val (.double (FP.l2d ((0 : Int64) + (w0).toInt64))), .second, .val (.ref r0), .val (.int (4 : Int32)), .val (.int (1 : Int32)), .val (.double (FP.l2d (w0).toInt64)), .second] [])) (fun t k => XS.goto X0.her hx rfl (pc0 := 32) (pc' := 11) rfl (hb hby d1_32) (by decide) (by decide) k) ?_
  refine own_st (f' := (mkF m 13 #[.val (.ref r0), .val (.double (FP.l2d ((0 : Int64) + (w0).toInt64))), .second, .val (.ref r0), .val (.int (4 : Int32)), .val (.int (1 : Int32)), .val (.double (FP.l2d (w0).toInt64)), .second] [(.int (1 : Int32))])) (fun t k => XS.iload X0.her hx rfl (hb hby d1_11) rfl k) ?_
  refine own_st (f' := (mkF m 15 #[.val (.ref r0), .val (.double (FP.l2d ((0 : Int64) + (w0).toInt64))), .second, .val (.ref r0), .val (.int (4 : Int32)), .val (.int (1 : Int32)), .val (.double (FP.l2d (w0).toInt64)), .second] [(.int (4 : Int32)), (.int (1 : Int32))])) (fun t k => XS.iload X0.her hx rfl (hb hby d1_13) rfl k) ?_
  refine own_st (f' := (mkF m 18 #[.val (.ref r0), .val (.double (FP.l2d ((0 : Int64) + (w0).toInt64))), .second, .val (.ref r0), .val (.int (4 : Int32)), .val (.int (1 : Int32)), .val (.double (FP.l2d (w0).toInt64)), .second] [])) (fun t k => XS.icmpNo X0.her hx rfl (hb hby d1_15) rfl (tlt (by decide : (1 : Int32) < (4 : Int32))).2.1 k) ?_
  refine own_st (f' := (mkF m 19 #[.val (.ref r0), .val (.double (FP.l2d ((0 : Int64) + (w0).toInt64))), .second, .val (.ref r0), .val (.int (4 : Int32)), .val (.int (1 : Int32)), .val (.double (FP.l2d (w0).toInt64)), .second] [(.ref r0)])) (fun t k => XS.aloadN X0.her hx rfl (hb hby d1_18) rfl rfl k) ?_
  refine own_st (f' := (mkF m 21 #[.val (.ref r0), .val (.double (FP.l2d ((0 : Int64) + (w0).toInt64))), .second, .val (.ref r0), .val (.int (4 : Int32)), .val (.int (1 : Int32)), .val (.double (FP.l2d (w0).toInt64)), .second] [(.int (1 : Int32)), (.ref r0)])) (fun t k => XS.iload X0.her hx rfl (hb hby d1_19) rfl k) ?_
  refine own_dload (v := (FP.l2d (w1).toInt64)) X0 hx hZ B0 (by decide) rfl (hb hby d1_21) ?_
  refine own_st (f' := (mkF m 24 #[.val (.ref r0), .val (.double (FP.l2d ((0 : Int64) + (w0).toInt64))), .second, .val (.ref r0), .val (.int (4 : Int32)), .val (.int (1 : Int32)), .val (.double (FP.l2d (w1).toInt64)), .second] [])) (fun t k => XS.dstore X0.her hx rfl (hb hby d1_22) rfl (l' := #[.val (.ref r0), .val (.double (FP.l2d ((0 : Int64) + (w0).toInt64))), .second, .val (.ref r0), .val (.int (4 : Int32)), .val (.int (1 : Int32)), .val (.double (FP.l2d (w1).toInt64)), .second]) rfl k) ?_
  refine own_st (f' := (mkF m 25 #[.val (.ref r0), .val (.double (FP.l2d ((0 : Int64) + (w0).toInt64))), .second, .val (.ref r0), .val (.int (4 : Int32)), .val (.int (1 : Int32)), .val (.double (FP.l2d (w1).toInt64)), .second] [(.double (FP.l2d ((0 : Int64) + (w0).toInt64)))])) (fun t k => XS.dloadN X0.her hx rfl (hb hby d1_24) rfl k) ?_
  refine own_st (f' := (mkF m 27 #[.val (.ref r0), .val (.double (FP.l2d ((0 : Int64) + (w0).toInt64))), .second, .val (.ref r0), .val (.int (4 : Int32)), .val (.int (1 : Int32)), .val (.double (FP.l2d (w1).toInt64)), .second] [(.double (FP.l2d (w1).toInt64)), (.double (FP.l2d ((0 : Int64) + (w0).toInt64)))])) (fun t k => XS.dload X0.her hx rfl (hb hby d1_25) rfl k) ?_
  refine own_st (f' := (mkF m 28 #[.val (.ref r0), .val (.double (FP.l2d ((0 : Int64) + (w0).toInt64))), .second, .val (.ref r0), .val (.int (4 : Int32)), .val (.int (1 : Int32)), .val (.double (FP.l2d (w1).toInt64)), .second] [(.double (FP.l2d (((0 : Int64) + (w0).toInt64) + (w1).toInt64)))])) (fun t k => XS.daddS X0.her hx rfl (hb hby d1_27) rfl (own_nadd (own_smb (k := 1) (by decide) (own_sm_add (by decide) own_sm0 _)) (own_smb (k := 1) (by decide) (own_sm1 _))) (dadd_w (own_smb (k := 1) (by decide) (own_sm_add (by decide) own_sm0 _)) (own_smb (k := 1) (by decide) (own_sm1 _))) k) ?_
  refine own_st (f' := (mkF m 29 #[.val (.ref r0), .val (.double (FP.l2d (((0 : Int64) + (w0).toInt64) + (w1).toInt64))), .second, .val (.ref r0), .val (.int (4 : Int32)), .val (.int (1 : Int32)), .val (.double (FP.l2d (w1).toInt64)), .second] [])) (fun t k => XS.dstoreN X0.her hx rfl (hb hby d1_28) rfl (l' := #[.val (.ref r0), .val (.double (FP.l2d (((0 : Int64) + (w0).toInt64) + (w1).toInt64))), .second, .val (.ref r0), .val (.int (4 : Int32)), .val (.int (1 : Int32)), .val (.double (FP.l2d (w1).toInt64)), .second]) rfl k) ?_
  refine own_st (f' := (mkF m 32 #[.val (.ref r0), .val (.double (FP.l2d (((0 : Int64) + (w0).toInt64) + (w1).toInt64))), .second, .val (.ref r0), .val (.int (4 : Int32)), .val (.int (2 : Int32)), .val (.double (FP.l2d (w1).toInt64)), .second] [])) (fun t k => XS.iinc X0.her hx rfl (hb hby d1_29) rfl (l' := #[.val (.ref r0), .val (.double (FP.l2d (((0 : Int64) + (w0).toInt64) + (w1).toInt64))), .second, .val (.ref r0), .val (.int (4 : Int32)), .val (.int (2 : Int32)), .val (.double (FP.l2d (w1).toInt64)), .second]) rfl k) ?_
  refine own_st (f' := (mkF m 11 #[.val (.ref r0), .val (.double (FP.l2d (((0 : Int64) + (w0).toInt64) + (w1).toInt64))), .second, .val (.ref r0), .val (.int (4 : Int32)), .val (.int (2 : Int32)), .val (.double (FP.l2d (w1).toInt64)), .second] [])) (fun t k => XS.goto X0.her hx rfl (pc0 := 32) (pc' := 11) rfl (hb hby d1_32) (by decide) (by decide) k) ?_
  refine own_st (f' := (mkF m 13 #[.val (.ref r0), .val (.double (FP.l2d (((0 : Int64) + (w0).toInt64) + (w1).toInt64))), .second, .val (.ref r0), .val (.int (4 : Int32)), .val (.int (2 : Int32)), .val (.double (FP.l2d (w1).toInt64)), .second] [(.int (2 : Int32))])) (fun t k => XS.iload X0.her hx rfl (hb hby d1_11) rfl k) ?_
  refine own_st (f' := (mkF m 15 #[.val (.ref r0), .val (.double (FP.l2d (((0 : Int64) + (w0).toInt64) + (w1).toInt64))), .second, .val (.ref r0), .val (.int (4 : Int32)), .val (.int (2 : Int32)), .val (.double (FP.l2d (w1).toInt64)), .second] [(.int (4 : Int32)), (.int (2 : Int32))])) (fun t k => XS.iload X0.her hx rfl (hb hby d1_13) rfl k) ?_
  refine own_st (f' := (mkF m 18 #[.val (.ref r0), .val (.double (FP.l2d (((0 : Int64) + (w0).toInt64) + (w1).toInt64))), .second, .val (.ref r0), .val (.int (4 : Int32)), .val (.int (2 : Int32)), .val (.double (FP.l2d (w1).toInt64)), .second] [])) (fun t k => XS.icmpNo X0.her hx rfl (hb hby d1_15) rfl (tlt (by decide : (2 : Int32) < (4 : Int32))).2.1 k) ?_
  refine own_st (f' := (mkF m 19 #[.val (.ref r0), .val (.double (FP.l2d (((0 : Int64) + (w0).toInt64) + (w1).toInt64))), .second, .val (.ref r0), .val (.int (4 : Int32)), .val (.int (2 : Int32)), .val (.double (FP.l2d (w1).toInt64)), .second] [(.ref r0)])) (fun t k => XS.aloadN X0.her hx rfl (hb hby d1_18) rfl rfl k) ?_
  refine own_st (f' := (mkF m 21 #[.val (.ref r0), .val (.double (FP.l2d (((0 : Int64) + (w0).toInt64) + (w1).toInt64))), .second, .val (.ref r0), .val (.int (4 : Int32)), .val (.int (2 : Int32)), .val (.double (FP.l2d (w1).toInt64)), .second] [(.int (2 : Int32)), (.ref r0)])) (fun t k => XS.iload X0.her hx rfl (hb hby d1_19) rfl k) ?_
  refine own_dload (v := (FP.l2d (w2).toInt64)) X0 hx hZ B0 (by decide) rfl (hb hby d1_21) ?_
  refine own_st (f' := (mkF m 24 #[.val (.ref r0), .val (.double (FP.l2d (((0 : Int64) + (w0).toInt64) + (w1).toInt64))), .second, .val (.ref r0), .val (.int (4 : Int32)), .val (.int (2 : Int32)), .val (.double (FP.l2d (w2).toInt64)), .second] [])) (fun t k => XS.dstore X0.her hx rfl (hb hby d1_22) rfl (l' := #[.val (.ref r0), .val (.double (FP.l2d (((0 : Int64) + (w0).toInt64) + (w1).toInt64))), .second, .val (.ref r0), .val (.int (4 : Int32)), .val (.int (2 : Int32)), .val (.double (FP.l2d (w2).toInt64)), .second]) rfl k) ?_
  refine own_st (f' := (mkF m 25 #[.val (.ref r0), .val (.double (FP.l2d (((0 : Int64) + (w0).toInt64) + (w1).toInt64))), .second, .val (.ref r0), .val (.int (4 : Int32)), .val (.int (2 : Int32)), .val (.double (FP.l2d (w2).toInt64)), .second] [(.double (FP.l2d (((0 : Int64) + (w0).toInt64) + (w1).toInt64)))])) (fun t k => XS.dloadN X0.her hx rfl (hb hby d1_24) rfl k) ?_
  refine own_st (f' := (mkF m 27 #[.val (.ref r0), .val (.double (FP.l2d (((0 : Int64) + (w0).toInt64) + (w1).toInt64))), .second, .val (.ref r0), .val (.int (4 : Int32)), .val (.int (2 : Int32)), .val (.double (FP.l2d (w2).toInt64)), .second] [(.double (FP.l2d (w2).toInt64)), (.double (FP.l2d (((0 : Int64) + (w0).toInt64) + (w1).toInt64)))])) (fun t k => XS.dload X0.her hx rfl (hb hby d1_25) rfl k) ?_
  refine own_st (f' := (mkF m 28 #[.val (.ref r0), .val (.double (FP.l2d (((0 : Int64) + (w0).toInt64) + (w1).toInt64))), .second, .val (.ref r0), .val (.int (4 : Int32)), .val (.int (2 : Int32)), .val (.double (FP.l2d (w2).toInt64)), .second] [(.double (FP.l2d ((((0 : Int64) + (w0).toInt64) + (w1).toInt64) + (w2).toInt64)))])) (fun t k => XS.daddS X0.her hx rfl (hb hby d1_27) rfl (own_nadd (own_smb (k := 2) (by decide) (own_sm_add (by decide) (own_sm_add (by decide) own_sm0 _) _)) (own_smb (k := 1) (by decide) (own_sm1 _))) (dadd_w (own_smb (k := 2) (by decide) (own_sm_add (by decide) (own_sm_add (by decide) own_sm0 _) _)) (own_smb (k := 1) (by decide) (own_sm1 _))) k) ?_
  refine own_st (f' := (mkF m 29 #[.val (.ref r0), .val (.double (FP.l2d ((((0 : Int64) + (w0).toInt64) + (w1).toInt64) + (w2).toInt64))), .second, .val (.ref r0), .val (.int (4 : Int32)), .val (.int (2 : Int32)), .val (.double (FP.l2d (w2).toInt64)), .second] [])) (fun t k => XS.dstoreN X0.her hx rfl (hb hby d1_28) rfl (l' := #[.val (.ref r0), .val (.double (FP.l2d ((((0 : Int64) + (w0).toInt64) + (w1).toInt64) + (w2).toInt64))), .second, .val (.ref r0), .val (.int (4 : Int32)), .val (.int (2 : Int32)), .val (.double (FP.l2d (w2).toInt64)), .second]) rfl k) ?_
  refine own_st (f' := (mkF m 32 #[.val (.ref r0), .val (.double (FP.l2d ((((0 : Int64) + (w0).toInt64) + (w1).toInt64) + (w2).toInt64))), .second, .val (.ref r0), .val (.int (4 : Int32)), .val (.int (3 : Int32)), .val (.double (FP.l2d (w2).toInt64)), .second] [])) (fun t k => XS.iinc X0.her hx rfl (hb hby d1_29) rfl (l' := #[.val (.ref r0), .val (.double (FP.l2d ((((0 : Int64) + (w0).toInt64) + (w1).toInt64) + (w2).toInt64))), .second, .val (.ref r0), .val (.int (4 : Int32)), .val (.int (3 : Int32)), .val (.double (FP.l2d (w2).toInt64)), .second]) rfl k) ?_
  refine own_st (f' := (mkF m 11 #[.val (.ref r0), .val (.double (FP.l2d ((((0 : Int64) + (w0).toInt64) + (w1).toInt64) + (w2).toInt64))), .second, .val (.ref r0), .val (.int (4 : Int32)), .val (.int (3 : Int32)), .val (.double (FP.l2d (w2).toInt64)), .second] [])) (fun t k => XS.goto X0.her hx rfl (pc0 := 32) (pc' := 11) rfl (hb hby d1_32) (by decide) (by decide) k) ?_
  refine own_st (f' := (mkF m 13 #[.val (.ref r0), .val (.double (FP.l2d ((((0 : Int64) + (w0).toInt64) + (w1).toInt64) + (w2).toInt64))), .second, .val (.ref r0), .val (.int (4 : Int32)), .val (.int (3 : Int32)), .val (.double (FP.l2d (w2).toInt64)), .second] [(.int (3 : Int32))])) (fun t k => XS.iload X0.her hx rfl (hb hby d1_11) rfl k) ?_
  refine own_st (f' := (mkF m 15 #[.val (.ref r0), .val (.double (FP.l2d ((((0 : Int64) + (w0).toInt64) + (w1).toInt64) + (w2).toInt64))), .second, .val (.ref r0), .val (.int (4 : Int32)), .val (.int (3 : Int32)), .val (.double (FP.l2d (w2).toInt64)), .second] [(.int (4 : Int32)), (.int (3 : Int32))])) (fun t k => XS.iload X0.her hx rfl (hb hby d1_13) rfl k) ?_
  refine own_st (f' := (mkF m 18 #[.val (.ref r0), .val (.double (FP.l2d ((((0 : Int64) + (w0).toInt64) + (w1).toInt64) + (w2).toInt64))), .second, .val (.ref r0), .val (.int (4 : Int32)), .val (.int (3 : Int32)), .val (.double (FP.l2d (w2).toInt64)), .second] [])) (fun t k => XS.icmpNo X0.her hx rfl (hb hby d1_15) rfl (tlt (by decide : (3 : Int32) < (4 : Int32))).2.1 k) ?_
  refine own_st (f' := (mkF m 19 #[.val (.ref r0), .val (.double (FP.l2d ((((0 : Int64) + (w0).toInt64) + (w1).toInt64) + (w2).toInt64))), .second, .val (.ref r0), .val (.int (4 : Int32)), .val (.int (3 : Int32)), .val (.double (FP.l2d (w2).toInt64)), .second] [(.ref r0)])) (fun t k => XS.aloadN X0.her hx rfl (hb hby d1_18) rfl rfl k) ?_
  refine own_st (f' := (mkF m 21 #[.val (.ref r0), .val (.double (FP.l2d ((((0 : Int64) + (w0).toInt64) + (w1).toInt64) + (w2).toInt64))), .second, .val (.ref r0), .val (.int (4 : Int32)), .val (.int (3 : Int32)), .val (.double (FP.l2d (w2).toInt64)), .second] [(.int (3 : Int32)), (.ref r0)])) (fun t k => XS.iload X0.her hx rfl (hb hby d1_19) rfl k) ?_
  refine own_dload (v := (FP.l2d (w3).toInt64)) X0 hx hZ B0 (by decide) rfl (hb hby d1_21) ?_
  refine own_st (f' := (mkF m 24 #[.val (.ref r0), .val (.double (FP.l2d ((((0 : Int64) + (w0).toInt64) + (w1).toInt64) + (w2).toInt64))), .second, .val (.ref r0), .val (.int (4 : Int32)), .val (.int (3 : Int32)), .val (.double (FP.l2d (w3).toInt64)), .second] [])) (fun t k => XS.dstore X0.her hx rfl (hb hby d1_22) rfl (l' := #[.val (.ref r0), .val (.double (FP.l2d ((((0 : Int64) + (w0).toInt64) + (w1).toInt64) + (w2).toInt64))), .second, .val (.ref r0), .val (.int (4 : Int32)), .val (.int (3 : Int32)), .val (.double (FP.l2d (w3).toInt64)), .second]) rfl k) ?_
  refine own_st (f' := (mkF m 25 #[.val (.ref r0), .val (.double (FP.l2d ((((0 : Int64) + (w0).toInt64) + (w1).toInt64) + (w2).toInt64))), .second, .val (.ref r0), .val (.int (4 : Int32)), .val (.int (3 : Int32)), .val (.double (FP.l2d (w3).toInt64)), .second] [(.double (FP.l2d ((((0 : Int64) + (w0).toInt64) + (w1).toInt64) + (w2).toInt64)))])) (fun t k => XS.dloadN X0.her hx rfl (hb hby d1_24) rfl k) ?_
  refine own_st (f' := (mkF m 27 #[.val (.ref r0), .val (.double (FP.l2d ((((0 : Int64) + (w0).toInt64) + (w1).toInt64) + (w2).toInt64))), .second, .val (.ref r0), .val (.int (4 : Int32)), .val (.int (3 : Int32)), .val (.double (FP.l2d (w3).toInt64)), .second] [(.double (FP.l2d (w3).toInt64)), (.double (FP.l2d ((((0 : Int64) + (w0).toInt64) + (w1).toInt64) + (w2).toInt64)))])) (fun t k => XS.dload X0.her hx rfl (hb hby d1_25) rfl k) ?_
  refine own_st (f' := (mkF m 28 #[.val (.ref r0), .val (.double (FP.l2d ((((0 : Int64) + (w0).toInt64) + (w1).toInt64) + (w2).toInt64))), .second, .val (.ref r0), .val (.int (4 : Int32)), .val (.int (3 : Int32)), .val (.double (FP.l2d (w3).toInt64)), .second] [(.double (FP.l2d (((((0 : Int64) + (w0).toInt64) + (w1).toInt64) + (w2).toInt64) + (w3).toInt64)))])) (fun t k => XS.daddS X0.her hx rfl (hb hby d1_27) rfl (own_nadd (own_smb (k := 3) (by decide) (own_sm_add (by decide) (own_sm_add (by decide) (own_sm_add (by decide) own_sm0 _) _) _)) (own_smb (k := 1) (by decide) (own_sm1 _))) (dadd_w (own_smb (k := 3) (by decide) (own_sm_add (by decide) (own_sm_add (by decide) (own_sm_add (by decide) own_sm0 _) _) _)) (own_smb (k := 1) (by decide) (own_sm1 _))) k) ?_
  refine own_st (f' := (mkF m 29 #[.val (.ref r0), .val (.double (FP.l2d (((((0 : Int64) + (w0).toInt64) + (w1).toInt64) + (w2).toInt64) + (w3).toInt64))), .second, .val (.ref r0), .val (.int (4 : Int32)), .val (.int (3 : Int32)), .val (.double (FP.l2d (w3).toInt64)), .second] [])) (fun t k => XS.dstoreN X0.her hx rfl (hb hby d1_28) rfl (l' := #[.val (.ref r0), .val (.double (FP.l2d (((((0 : Int64) + (w0).toInt64) + (w1).toInt64) + (w2).toInt64) + (w3).toInt64))), .second, .val (.ref r0), .val (.int (4 : Int32)), .val (.int (3 : Int32)), .val (.double (FP.l2d (w3).toInt64)), .second]) rfl k) ?_
  refine own_st (f' := (mkF m 32 #[.val (.ref r0), .val (.double (FP.l2d (((((0 : Int64) + (w0).toInt64) + (w1).toInt64) + (w2).toInt64) + (w3).toInt64))), .second, .val (.ref r0), .val (.int (4 : Int32)), .val (.int (4 : Int32)), .val (.double (FP.l2d (w3).toInt64)), .second] [])) (fun t k => XS.iinc X0.her hx rfl (hb hby d1_29) rfl (l' := #[.val (.ref r0), .val (.double (FP.l2d (((((0 : Int64) + (w0).toInt64) + (w1).toInt64) + (w2).toInt64) + (w3).toInt64))), .second, .val (.ref r0), .val (.int (4 : Int32)), .val (.int (4 : Int32)), .val (.double (FP.l2d (w3).toInt64)), .second]) rfl k) ?_
  refine own_st (f' := (mkF m 11 #[.val (.ref r0), .val (.double (FP.l2d (((((0 : Int64) + (w0).toInt64) + (w1).toInt64) + (w2).toInt64) + (w3).toInt64))), .second, .val (.ref r0), .val (.int (4 : Int32)), .val (.int (4 : Int32)), .val (.double (FP.l2d (w3).toInt64)), .second] [])) (fun t k => XS.goto X0.her hx rfl (pc0 := 32) (pc' := 11) rfl (hb hby d1_32) (by decide) (by decide) k) ?_
  refine own_st (f' := (mkF m 13 #[.val (.ref r0), .val (.double (FP.l2d (((((0 : Int64) + (w0).toInt64) + (w1).toInt64) + (w2).toInt64) + (w3).toInt64))), .second, .val (.ref r0), .val (.int (4 : Int32)), .val (.int (4 : Int32)), .val (.double (FP.l2d (w3).toInt64)), .second] [(.int (4 : Int32))])) (fun t k => XS.iload X0.her hx rfl (hb hby d1_11) rfl k) ?_
  refine own_st (f' := (mkF m 15 #[.val (.ref r0), .val (.double (FP.l2d (((((0 : Int64) + (w0).toInt64) + (w1).toInt64) + (w2).toInt64) + (w3).toInt64))), .second, .val (.ref r0), .val (.int (4 : Int32)), .val (.int (4 : Int32)), .val (.double (FP.l2d (w3).toInt64)), .second] [(.int (4 : Int32)), (.int (4 : Int32))])) (fun t k => XS.iload X0.her hx rfl (hb hby d1_13) rfl k) ?_
  refine own_st (f' := (mkF m 35 #[.val (.ref r0), .val (.double (FP.l2d (((((0 : Int64) + (w0).toInt64) + (w1).toInt64) + (w2).toInt64) + (w3).toInt64))), .second, .val (.ref r0), .val (.int (4 : Int32)), .val (.int (4 : Int32)), .val (.double (FP.l2d (w3).toInt64)), .second] [])) (fun t k => XS.icmpYes X0.her hx rfl (pc0 := 15) (pc' := 35) rfl (hb hby d1_15) rfl (flt (by simp : ¬ ((4 : Int32) < (4 : Int32)))).2.1 (by decide) (by decide) k) ?_
  refine own_st (f' := (mkF m 36 #[.val (.ref r0), .val (.double (FP.l2d (((((0 : Int64) + (w0).toInt64) + (w1).toInt64) + (w2).toInt64) + (w3).toInt64))), .second, .val (.ref r0), .val (.int (4 : Int32)), .val (.int (4 : Int32)), .val (.double (FP.l2d (w3).toInt64)), .second] [(.double (FP.l2d (((((0 : Int64) + (w0).toInt64) + (w1).toInt64) + (w2).toInt64) + (w3).toInt64)))])) (fun t k => XS.dloadN X0.her hx rfl (hb hby d1_35) rfl k) ?_
  refine own_st (f' := (mkF m 37 #[.val (.ref r0), .val (.double (FP.l2d (((((0 : Int64) + (w0).toInt64) + (w1).toInt64) + (w2).toInt64) + (w3).toInt64))), .second, .val (.ref r0), .val (.int (4 : Int32)), .val (.int (4 : Int32)), .val (.double (FP.l2d (w3).toInt64)), .second] [(.ref r0), (.double (FP.l2d (((((0 : Int64) + (w0).toInt64) + (w1).toInt64) + (w2).toInt64) + (w3).toInt64)))])) (fun t k => XS.aloadN X0.her hx rfl (hb hby d1_36) rfl rfl k) ?_
  refine own_dlen (n := (4 : Int32)) X0 hx hZ B0 (by show Nat.toInt32 4 = _; decide) (hb hby d1_37) ?_
  refine own_st (f' := (mkF m 39 #[.val (.ref r0), .val (.double (FP.l2d (((((0 : Int64) + (w0).toInt64) + (w1).toInt64) + (w2).toInt64) + (w3).toInt64))), .second, .val (.ref r0), .val (.int (4 : Int32)), .val (.int (4 : Int32)), .val (.double (FP.l2d (w3).toInt64)), .second] [(.double (FP.l2d ((4 : Int32)).toInt64)), (.double (FP.l2d (((((0 : Int64) + (w0).toInt64) + (w1).toInt64) + (w2).toInt64) + (w3).toInt64)))])) (fun t k => XS.i2dS X0.her hx rfl (hb hby d1_38) rfl (i2d_w _) k) ?_
  refine own_st (f' := (mkF m 40 #[.val (.ref r0), .val (.double (FP.l2d (((((0 : Int64) + (w0).toInt64) + (w1).toInt64) + (w2).toInt64) + (w3).toInt64))), .second, .val (.ref r0), .val (.int (4 : Int32)), .val (.int (4 : Int32)), .val (.double (FP.l2d (w3).toInt64)), .second] [(.double (FP.ddiv (FP.l2d (((((0 : Int64) + (w0).toInt64) + (w1).toInt64) + (w2).toInt64) + (w3).toInt64)) (FP.l2d ((4 : Int32)).toInt64)))])) (fun t k => XS.ddivS X0.her hx rfl (hb hby d1_39) rfl (own_ndiv _ (by unfold Nz64; decide +kernel)) rfl k) ?_
  refine own_retD X0 hx hret hlk (hb hby d1_40) (by first | decide | omega) (by first | decide | omega) ?_
  exact ⟨rfl, rfl⟩
def own_t0_5 (p0 : Int32) (p1 : Int32) (p2 : Int32) (p3 : Int32) (p4 : Int32) : Int32 := ((p0 &&& (3 : Int32)) + (1 : Int32))
/-- the plain law -/
theorem own_cmp {x y : UInt64} (e : x = y) (h : NoNaN64 y) : cmpValue (FP.dcmp x y) .l = 0 := by rw [e]; exact dcmpV_self h .l
theorem own_four (p0 p1 p2 p3 p4 : Int32) (h1 : ¬ own_t0_5 p0 p1 p2 p3 p4 = 1) (h2 : ¬ own_t0_5 p0 p1 p2 p3 p4 = 2) (h3 : ¬ own_t0_5 p0 p1 p2 p3 p4 = 3) : own_t0_5 p0 p1 p2 p3 p4 = 4 := by
  have m1 : (p0 &&& 3).toInt = p0.toInt % 2 ^ 2 := Jvm.Kit.i32_mask p0 3 (by decide) (by decide)
  have z1 : (1 : Int32).toInt = 1 := rfl
  have z2 : (2 : Int32).toInt = 2 := rfl
  have z3 : (3 : Int32).toInt = 3 := rfl
  have z4 : (4 : Int32).toInt = 4 := rfl
  have r : (own_t0_5 p0 p1 p2 p3 p4).toInt = (p0 &&& 3).toInt + 1 := by
    show ((p0 &&& 3) + 1).toInt = _
    rw [Jvm.Kit.i32_add (by omega) (by omega), z1]
  rw [← Int32.toInt_inj] at h1 h2 h3 ⊢
  omega
theorem own_ef0 (m : MethodId) (p0 : Int32) (p1 : Int32) (p2 : Int32) (p3 : Int32) (p4 : Int32) : entryFrame m #[(.int p0), (.int p1), (.int p2), (.int p3), (.int p4)] maxLocals = mkF m 0 #[.val (.int p0), .val (.int p1), .val (.int p2), .val (.int p3), .val (.int p4), .unset, .unset, .unset, .unset, .unset, .unset] [] := by first | (simp [entryFrame, mkF, argsToLocals, Value.category, maxLocals]; done) | rfl
set_option maxRecDepth 65536 in
set_option maxHeartbeats 40000000 in
theorem own_c0 (l : Launch) (Z : State) (a0 : Array Value) (hw : ∀ d ∈ tables_1, d.before a0 Z = true) (h0 : Heap) (n0 : Nat) (Z0 : n0 ≤ h0.size) (p0 : Int32) (p1 : Int32) (p2 : Int32) (p3 : Int32) (p4 : Int32) :
    own_M l x code maxLocals ret tables_1 room_1 Z #[(.int p0), (.int p1), (.int p2), (.int p3), (.int p4)] h0 (own_Q n0 h0 [] (fun v _ => v = some (.int 1))) := by
  refine own_body (plainFor_of_name own_pn1) ?_
  intro p e s m below meth c T0 X0 hx hby hml hown hnm hret hlk hZ
  refine own_cast (own_ef0 m p0 p1 p2 p3 p4) ?_
  refine own_st (f' := (mkF m 1 #[.val (.int p0), .val (.int p1), .val (.int p2), .val (.int p3), .val (.int p4), .unset, .unset, .unset, .unset, .unset, .unset] [(.int p0)])) (fun t k => XS.iloadN X0.her hx rfl (hb hby at_0) rfl k) ?_
  refine own_st (f' := (mkF m 2 #[.val (.int p0), .val (.int p1), .val (.int p2), .val (.int p3), .val (.int p4), .unset, .unset, .unset, .unset, .unset, .unset] [(.int (3 : Int32)), (.int p0)])) (fun t k => XS.iconst X0.her hx rfl (hb hby at_1) k) ?_
  refine own_st (f' := (mkF m 3 #[.val (.int p0), .val (.int p1), .val (.int p2), .val (.int p3), .val (.int p4), .unset, .unset, .unset, .unset, .unset, .unset] [(.int (p0 &&& (3 : Int32)))])) (fun t k => XS.iand X0.her hx rfl (hb hby at_2) rfl k) ?_
  refine own_st (f' := (mkF m 4 #[.val (.int p0), .val (.int p1), .val (.int p2), .val (.int p3), .val (.int p4), .unset, .unset, .unset, .unset, .unset, .unset] [(.int (1 : Int32)), (.int (p0 &&& (3 : Int32)))])) (fun t k => XS.iconst X0.her hx rfl (hb hby at_3) k) ?_
  refine own_st (f' := (mkF m 5 #[.val (.int p0), .val (.int p1), .val (.int p2), .val (.int p3), .val (.int p4), .unset, .unset, .unset, .unset, .unset, .unset] [(.int ((p0 &&& (3 : Int32)) + (1 : Int32)))])) (fun t k => XS.iadd X0.her hx rfl (hb hby at_4) rfl k) ?_
  refine own_st (f' := (mkF m 7 #[.val (.int p0), .val (.int p1), .val (.int p2), .val (.int p3), .val (.int p4), .val (.int (own_t0_5 p0 p1 p2 p3 p4)), .unset, .unset, .unset, .unset, .unset] [])) (fun t k => XS.istore X0.her hx rfl (hb hby at_5) rfl (l' := #[.val (.int p0), .val (.int p1), .val (.int p2), .val (.int p3), .val (.int p4), .val (.int (own_t0_5 p0 p1 p2 p3 p4)), .unset, .unset, .unset, .unset, .unset]) rfl k) ?_
  refine own_st (f' := (mkF m 9 #[.val (.int p0), .val (.int p1), .val (.int p2), .val (.int p3), .val (.int p4), .val (.int (own_t0_5 p0 p1 p2 p3 p4)), .unset, .unset, .unset, .unset, .unset] [(.int (own_t0_5 p0 p1 p2 p3 p4))])) (fun t k => XS.iload X0.her hx rfl (hb hby at_7) rfl k) ?_
  refine own_st (f' := (mkF m 10 #[.val (.int p0), .val (.int p1), .val (.int p2), .val (.int p3), .val (.int p4), .val (.int (own_t0_5 p0 p1 p2 p3 p4)), .unset, .unset, .unset, .unset, .unset] [(.int (1 : Int32)), (.int (own_t0_5 p0 p1 p2 p3 p4))])) (fun t k => XS.iconst X0.her hx rfl (hb hby at_9) k) ?_
  by_cases hc1 : (own_t0_5 p0 p1 p2 p3 p4) = (1 : Int32)
  · refine own_st (f' := (mkF m 13 #[.val (.int p0), .val (.int p1), .val (.int p2), .val (.int p3), .val (.int p4), .val (.int (own_t0_5 p0 p1 p2 p3 p4)), .unset, .unset, .unset, .unset, .unset] [])) (fun t k => XS.icmpNo X0.her hx rfl (hb hby at_10) rfl (teq hc1).2 k) ?_
    rw [hc1]
    refine own_st (f' := (mkF m 14 #[.val (.int p0), .val (.int p1), .val (.int p2), .val (.int p3), .val (.int p4), .val (.int (1 : Int32)), .unset, .unset, .unset, .unset, .unset] [(.int (1 : Int32))])) (fun t k => XS.iconst X0.her hx rfl (hb hby at_13) k) ?_
    refine own_newD (kk := 1) X0 hx hZ (own_w0 hw) (by decide) rfl (by decide) (by decide) (by decide) (hb hby at_14) ?_
    intro T2 h2 b2 g2 q2 X2 E2 B2
    replace B2 : own_DA Z h2 b2 [(0 : UInt64)] := B2
    have ga_b2 : n0 ≤ b2 := Nat.le_trans Z0 q2
    have Zn2 : n0 ≤ h2.size := Nat.le_trans Z0 E2.1
    refine own_st (f' := (mkF m 17 #[.val (.int p0), .val (.int p1), .val (.int p2), .val (.int p3), .val (.int p4), .val (.int (1 : Int32)), .unset, .unset, .unset, .unset, .unset] [(.ref b2), (.ref b2)])) (fun t k => XS.dup X2.her hx rfl (hb hby at_16) rfl rfl k) ?_
    refine own_st (f' := (mkF m 18 #[.val (.int p0), .val (.int p1), .val (.int p2), .val (.int p3), .val (.int p4), .val (.int (1 : Int32)), .unset, .unset, .unset, .unset, .unset] [(.int (0 : Int32)), (.ref b2), (.ref b2)])) (fun t k => XS.iconst X2.her hx rfl (hb hby at_17) k) ?_
    refine own_st (f' := (mkF m 19 #[.val (.int p0), .val (.int p1), .val (.int p2), .val (.int p3), .val (.int p4), .val (.int (1 : Int32)), .unset, .unset, .unset, .unset, .unset] [(.int p1), (.int (0 : Int32)), (.ref b2), (.ref b2)])) (fun t k => XS.iloadN X2.her hx rfl (hb hby at_18) rfl k) ?_
    refine own_st (f' := (mkF m 20 #[.val (.int p0), .val (.int p1), .val (.int p2), .val (.int p3), .val (.int p4), .val (.int (1 : Int32)), .unset, .unset, .unset, .unset, .unset] [(.double (FP.l2d (p1).toInt64)), (.int (0 : Int32)), (.ref b2), (.ref b2)])) (fun t k => XS.i2dS X2.her hx rfl (hb hby at_19) rfl (i2d_w _) k) ?_
    refine own_dstore X2 hx hZ B2 (by decide) (by show 0 < 1; decide) (hb hby at_20) ga_b2 (Or.inr q2) ?_
    intro T3 h3 X3 K3 B3
    replace B3 : own_DA Z h3 b2 [(FP.l2d (p1).toInt64)] := B3
    have Zn3 : n0 ≤ h3.size := Nat.le_trans Zn2 K3.1
    refine own_st (f' := (mkF m 23 #[.val (.int p0), .val (.int p1), .val (.int p2), .val (.int p3), .val (.int p4), .val (.int (1 : Int32)), .val (.ref b2), .unset, .unset, .unset, .unset] [])) (fun t k => XS.astore X3.her hx rfl (hb hby at_21) rfl rfl (l' := #[.val (.int p0), .val (.int p1), .val (.int p2), .val (.int p3), .val (.int p4), .val (.int (1 : Int32)), .val (.ref b2), .unset, .unset, .unset, .unset]) rfl k) ?_
    refine own_st (f' := (mkF m 24 #[.val (.int p0), .val (.int p1), .val (.int p2), .val (.int p3), .val (.int p4), .val (.int (1 : Int32)), .val (.ref b2), .unset, .unset, .unset, .unset] [(.int p1)])) (fun t k => XS.iloadN X3.her hx rfl (hb hby at_23) rfl k) ?_
    refine own_st (f' := (mkF m 25 #[.val (.int p0), .val (.int p1), .val (.int p2), .val (.int p3), .val (.int p4), .val (.int (1 : Int32)), .val (.ref b2), .unset, .unset, .unset, .unset] [(.long (p1.toInt64))])) (fun t k => XS.i2l X3.her hx rfl (hb hby at_24) rfl k) ?_
    refine own_st (f' := (mkF m 27 #[.val (.int p0), .val (.int p1), .val (.int p2), .val (.int p3), .val (.int p4), .val (.int (1 : Int32)), .val (.ref b2), .val (.long (p1.toInt64)), .second, .unset, .unset] [])) (fun t k => XS.lstore X3.her hx rfl (hb hby at_25) rfl (l' := #[.val (.int p0), .val (.int p1), .val (.int p2), .val (.int p3), .val (.int p4), .val (.int (1 : Int32)), .val (.ref b2), .val (.long (p1.toInt64)), .second, .unset, .unset]) rfl k) ?_
    refine own_st (f' := (mkF m 140 #[.val (.int p0), .val (.int p1), .val (.int p2), .val (.int p3), .val (.int p4), .val (.int (1 : Int32)), .val (.ref b2), .val (.long (p1.toInt64)), .second, .unset, .unset] [])) (fun t k => XS.goto X3.her hx rfl (pc0 := 27) (pc' := 140) rfl (hb hby at_27) (by decide) (by decide) k) ?_
    refine own_st (f' := (mkF m 142 #[.val (.int p0), .val (.int p1), .val (.int p2), .val (.int p3), .val (.int p4), .val (.int (1 : Int32)), .val (.ref b2), .val (.long (p1.toInt64)), .second, .unset, .unset] [(.long (p1.toInt64))])) (fun t k => XS.lload X3.her hx rfl (hb hby at_140) rfl k) ?_
    refine own_st (f' := (mkF m 143 #[.val (.int p0), .val (.int p1), .val (.int p2), .val (.int p3), .val (.int p4), .val (.int (1 : Int32)), .val (.ref b2), .val (.long (p1.toInt64)), .second, .unset, .unset] [(.double (FP.l2d (p1.toInt64)))])) (fun t k => XS.l2dS X3.her hx rfl (hb hby at_142) rfl rfl k) ?_
    refine own_st (f' := (mkF m 145 #[.val (.int p0), .val (.int p1), .val (.int p2), .val (.int p3), .val (.int p4), .val (.int (1 : Int32)), .val (.ref b2), .val (.long (p1.toInt64)), .second, .unset, .unset] [(.int (1 : Int32)), (.double (FP.l2d (p1.toInt64)))])) (fun t k => XS.iload X3.her hx rfl (hb hby at_143) rfl k) ?_
    refine own_st (f' := (mkF m 146 #[.val (.int p0), .val (.int p1), .val (.int p2), .val (.int p3), .val (.int p4), .val (.int (1 : Int32)), .val (.ref b2), .val (.long (p1.toInt64)), .second, .unset, .unset] [(.double (FP.l2d ((1 : Int32)).toInt64)), (.double (FP.l2d (p1.toInt64)))])) (fun t k => XS.i2dS X3.her hx rfl (hb hby at_145) rfl (i2d_w _) k) ?_
    refine own_st (f' := (mkF m 147 #[.val (.int p0), .val (.int p1), .val (.int p2), .val (.int p3), .val (.int p4), .val (.int (1 : Int32)), .val (.ref b2), .val (.long (p1.toInt64)), .second, .unset, .unset] [(.double (FP.ddiv (FP.l2d (p1.toInt64)) (FP.l2d ((1 : Int32)).toInt64)))])) (fun t k => XS.ddivS X3.her hx rfl (hb hby at_146) rfl (own_ndiv _ (by unfold Nz64; decide +kernel)) rfl k) ?_
    refine own_st (f' := (mkF m 149 #[.val (.int p0), .val (.int p1), .val (.int p2), .val (.int p3), .val (.int p4), .val (.int (1 : Int32)), .val (.ref b2), .val (.long (p1.toInt64)), .second, .val (.double (FP.ddiv (FP.l2d (p1.toInt64)) (FP.l2d ((1 : Int32)).toInt64))), .second] [])) (fun t k => XS.dstore X3.her hx rfl (hb hby at_147) rfl (l' := #[.val (.int p0), .val (.int p1), .val (.int p2), .val (.int p3), .val (.int p4), .val (.int (1 : Int32)), .val (.ref b2), .val (.long (p1.toInt64)), .second, .val (.double (FP.ddiv (FP.l2d (p1.toInt64)) (FP.l2d ((1 : Int32)).toInt64))), .second]) rfl k) ?_
    refine own_st (f' := (mkF m 151 #[.val (.int p0), .val (.int p1), .val (.int p2), .val (.int p3), .val (.int p4), .val (.int (1 : Int32)), .val (.ref b2), .val (.long (p1.toInt64)), .second, .val (.double (FP.ddiv (FP.l2d (p1.toInt64)) (FP.l2d ((1 : Int32)).toInt64))), .second] [(.ref b2)])) (fun t k => XS.aload X3.her hx rfl (hb hby at_149) rfl rfl k) ?_
    refine own_callSP (y := (⟨"com/example/bidwright/bidwright/tournament/Samples", "mean", "([D)D"⟩ : MethodName)) (W := 0) [(.ref b2)] X3 hx hZ hown (own_w1 hw) (own_w2 hw) (own_w3 hw) (own_w4 hw) (by decide) (own_m1 l Z a0 hw h3 n0 Zn3 b2 p1 B3) (by decide) (by decide) (by decide) (by decide) (by rw [hml]; rfl) own_pd0 rfl rfl (Nat.le_of_eq rfl) (hb hby at_151) ?_
    intro T4 X4
    show own_G p e below _ T4 (mkF m 154 #[.val (.int p0), .val (.int p1), .val (.int p2), .val (.int p3), .val (.int p4), .val (.int (1 : Int32)), .val (.ref b2), .val (.long (p1.toInt64)), .second, .val (.double (FP.ddiv (FP.l2d (p1.toInt64)) (FP.l2d ((1 : Int32)).toInt64))), .second] [(.double (FP.ddiv (FP.l2d ((0 : Int64) + (p1).toInt64)) (FP.l2d (1 : Int32).toInt64)))])
    refine own_st (f' := (mkF m 156 #[.val (.int p0), .val (.int p1), .val (.int p2), .val (.int p3), .val (.int p4), .val (.int (1 : Int32)), .val (.ref b2), .val (.long (p1.toInt64)), .second, .val (.double (FP.ddiv (FP.l2d (p1.toInt64)) (FP.l2d ((1 : Int32)).toInt64))), .second] [(.double (FP.ddiv (FP.l2d (p1.toInt64)) (FP.l2d ((1 : Int32)).toInt64))), (.double (FP.ddiv (FP.l2d ((0 : Int64) + (p1).toInt64)) (FP.l2d (1 : Int32).toInt64)))])) (fun t k => XS.dload X4.her hx rfl (hb hby at_154) rfl k) ?_
    refine own_st (f' := (mkF m 157 #[.val (.int p0), .val (.int p1), .val (.int p2), .val (.int p3), .val (.int p4), .val (.int (1 : Int32)), .val (.ref b2), .val (.long (p1.toInt64)), .second, .val (.double (FP.ddiv (FP.l2d (p1.toInt64)) (FP.l2d ((1 : Int32)).toInt64))), .second] [(.int (cmpValue (FP.dcmp (FP.ddiv (FP.l2d ((0 : Int64) + (p1).toInt64)) (FP.l2d (1 : Int32).toInt64)) (FP.ddiv (FP.l2d (p1.toInt64)) (FP.l2d ((1 : Int32)).toInt64))) .l))])) (fun t k => XS.dcmpS X4.her hx rfl (hb hby at_156) rfl rfl k) ?_
    refine own_st (f' := (mkF m 160 #[.val (.int p0), .val (.int p1), .val (.int p2), .val (.int p3), .val (.int p4), .val (.int (1 : Int32)), .val (.ref b2), .val (.long (p1.toInt64)), .second, .val (.double (FP.ddiv (FP.l2d (p1.toInt64)) (FP.l2d ((1 : Int32)).toInt64))), .second] [])) (fun t k => XS.ifNo X4.her hx rfl (hb hby at_157) rfl ((if0 _ _).trans (teq (own_cmp (by simp only [Int64.zero_add]) (own_ndiv _ (by unfold Nz64; decide +kernel)) : (cmpValue (FP.dcmp (FP.ddiv (FP.l2d ((0 : Int64) + (p1).toInt64)) (FP.l2d (1 : Int32).toInt64)) (FP.ddiv (FP.l2d (p1.toInt64)) (FP.l2d ((1 : Int32)).toInt64))) .l) = (0 : Int32))).2) k) ?_
    refine own_st (f' := (mkF m 161 #[.val (.int p0), .val (.int p1), .val (.int p2), .val (.int p3), .val (.int p4), .val (.int (1 : Int32)), .val (.ref b2), .val (.long (p1.toInt64)), .second, .val (.double (FP.ddiv (FP.l2d (p1.toInt64)) (FP.l2d ((1 : Int32)).toInt64))), .second] [(.int (1 : Int32))])) (fun t k => XS.iconst X4.her hx rfl (hb hby at_160) k) ?_
    refine own_st (f' := (mkF m 165 #[.val (.int p0), .val (.int p1), .val (.int p2), .val (.int p3), .val (.int p4), .val (.int (1 : Int32)), .val (.ref b2), .val (.long (p1.toInt64)), .second, .val (.double (FP.ddiv (FP.l2d (p1.toInt64)) (FP.l2d ((1 : Int32)).toInt64))), .second] [(.int (1 : Int32))])) (fun t k => XS.goto X4.her hx rfl (pc0 := 161) (pc' := 165) rfl (hb hby at_161) (by decide) (by decide) k) ?_
    refine own_retN (t := .boolean) X4 hx hret hlk (by simp) (hb hby at_165) (by first | decide | omega) (by first | decide | omega) ?_
    exact congrArg (fun q => some (Value.int q)) (by decide)
  · refine own_st (f' := (mkF m 30 #[.val (.int p0), .val (.int p1), .val (.int p2), .val (.int p3), .val (.int p4), .val (.int (own_t0_5 p0 p1 p2 p3 p4)), .unset, .unset, .unset, .unset, .unset] [])) (fun t k => XS.icmpYes X0.her hx rfl (pc0 := 10) (pc' := 30) rfl (hb hby at_10) rfl (feq hc1).2 (by decide) (by decide) k) ?_
    refine own_st (f' := (mkF m 32 #[.val (.int p0), .val (.int p1), .val (.int p2), .val (.int p3), .val (.int p4), .val (.int (own_t0_5 p0 p1 p2 p3 p4)), .unset, .unset, .unset, .unset, .unset] [(.int (own_t0_5 p0 p1 p2 p3 p4))])) (fun t k => XS.iload X0.her hx rfl (hb hby at_30) rfl k) ?_
    refine own_st (f' := (mkF m 33 #[.val (.int p0), .val (.int p1), .val (.int p2), .val (.int p3), .val (.int p4), .val (.int (own_t0_5 p0 p1 p2 p3 p4)), .unset, .unset, .unset, .unset, .unset] [(.int (2 : Int32)), (.int (own_t0_5 p0 p1 p2 p3 p4))])) (fun t k => XS.iconst X0.her hx rfl (hb hby at_32) k) ?_
    by_cases hc5 : (own_t0_5 p0 p1 p2 p3 p4) = (2 : Int32)
    · refine own_st (f' := (mkF m 36 #[.val (.int p0), .val (.int p1), .val (.int p2), .val (.int p3), .val (.int p4), .val (.int (own_t0_5 p0 p1 p2 p3 p4)), .unset, .unset, .unset, .unset, .unset] [])) (fun t k => XS.icmpNo X0.her hx rfl (hb hby at_33) rfl (teq hc5).2 k) ?_
      rw [hc5]
      refine own_st (f' := (mkF m 37 #[.val (.int p0), .val (.int p1), .val (.int p2), .val (.int p3), .val (.int p4), .val (.int (2 : Int32)), .unset, .unset, .unset, .unset, .unset] [(.int (2 : Int32))])) (fun t k => XS.iconst X0.her hx rfl (hb hby at_36) k) ?_
      refine own_newD (kk := 2) X0 hx hZ (own_w0 hw) (by decide) rfl (by decide) (by decide) (by decide) (hb hby at_37) ?_
      intro T6 h6 b6 g6 q6 X6 E6 B6
      replace B6 : own_DA Z h6 b6 [(0 : UInt64), (0 : UInt64)] := B6
      have ga_b6 : n0 ≤ b6 := Nat.le_trans Z0 q6
      have Zn6 : n0 ≤ h6.size := Nat.le_trans Z0 E6.1
      refine own_st (f' := (mkF m 40 #[.val (.int p0), .val (.int p1), .val (.int p2), .val (.int p3), .val (.int p4), .val (.int (2 : Int32)), .unset, .unset, .unset, .unset, .unset] [(.ref b6), (.ref b6)])) (fun t k => XS.dup X6.her hx rfl (hb hby at_39) rfl rfl k) ?_
      refine own_st (f' := (mkF m 41 #[.val (.int p0), .val (.int p1), .val (.int p2), .val (.int p3), .val (.int p4), .val (.int (2 : Int32)), .unset, .unset, .unset, .unset, .unset] [(.int (0 : Int32)), (.ref b6), (.ref b6)])) (fun t k => XS.iconst X6.her hx rfl (hb hby at_40) k) ?_
      refine own_st (f' := (mkF m 42 #[.val (.int p0), .val (.int p1), .val (.int p2), .val (.int p3), .val (.int p4), .val (.int (2 : Int32)), .unset, .unset, .unset, .unset, .unset] [(.int p1), (.int (0 : Int32)), (.ref b6), (.ref b6)])) (fun t k => XS.iloadN X6.her hx rfl (hb hby at_41) rfl k) ?_
      refine own_st (f' := (mkF m 43 #[.val (.int p0), .val (.int p1), .val (.int p2), .val (.int p3), .val (.int p4), .val (.int (2 : Int32)), .unset, .unset, .unset, .unset, .unset] [(.double (FP.l2d (p1).toInt64)), (.int (0 : Int32)), (.ref b6), (.ref b6)])) (fun t k => XS.i2dS X6.her hx rfl (hb hby at_42) rfl (i2d_w _) k) ?_
      refine own_dstore X6 hx hZ B6 (by decide) (by show 0 < 2; decide) (hb hby at_43) ga_b6 (Or.inr q6) ?_
      intro T7 h7 X7 K7 B7
      replace B7 : own_DA Z h7 b6 [(FP.l2d (p1).toInt64), (0 : UInt64)] := B7
      have Zn7 : n0 ≤ h7.size := Nat.le_trans Zn6 K7.1
      refine own_st (f' := (mkF m 45 #[.val (.int p0), .val (.int p1), .val (.int p2), .val (.int p3), .val (.int p4), .val (.int (2 : Int32)), .unset, .unset, .unset, .unset, .unset] [(.ref b6), (.ref b6)])) (fun t k => XS.dup X7.her hx rfl (hb hby at_44) rfl rfl k) ?_
      refine own_st (f' := (mkF m 46 #[.val (.int p0), .val (.int p1), .val (.int p2), .val (.int p3), .val (.int p4), .val (.int (2 : Int32)), .unset, .unset, .unset, .unset, .unset] [(.int (1 : Int32)), (.ref b6), (.ref b6)])) (fun t k => XS.iconst X7.her hx rfl (hb hby at_45) k) ?_
      refine own_st (f' := (mkF m 47 #[.val (.int p0), .val (.int p1), .val (.int p2), .val (.int p3), .val (.int p4), .val (.int (2 : Int32)), .unset, .unset, .unset, .unset, .unset] [(.int p2), (.int (1 : Int32)), (.ref b6), (.ref b6)])) (fun t k => XS.iloadN X7.her hx rfl (hb hby at_46) rfl k) ?_
      refine own_st (f' := (mkF m 48 #[.val (.int p0), .val (.int p1), .val (.int p2), .val (.int p3), .val (.int p4), .val (.int (2 : Int32)), .unset, .unset, .unset, .unset, .unset] [(.double (FP.l2d (p2).toInt64)), (.int (1 : Int32)), (.ref b6), (.ref b6)])) (fun t k => XS.i2dS X7.her hx rfl (hb hby at_47) rfl (i2d_w _) k) ?_
      refine own_dstore X7 hx hZ B7 (by decide) (by show 1 < 2; decide) (hb hby at_48) ga_b6 (Or.inr q6) ?_
      intro T8 h8 X8 K8 B8
      replace B8 : own_DA Z h8 b6 [(FP.l2d (p1).toInt64), (FP.l2d (p2).toInt64)] := B8
      have Zn8 : n0 ≤ h8.size := Nat.le_trans Zn7 K8.1
      refine own_st (f' := (mkF m 51 #[.val (.int p0), .val (.int p1), .val (.int p2), .val (.int p3), .val (.int p4), .val (.int (2 : Int32)), .val (.ref b6), .unset, .unset, .unset, .unset] [])) (fun t k => XS.astore X8.her hx rfl (hb hby at_49) rfl rfl (l' := #[.val (.int p0), .val (.int p1), .val (.int p2), .val (.int p3), .val (.int p4), .val (.int (2 : Int32)), .val (.ref b6), .unset, .unset, .unset, .unset]) rfl k) ?_
      refine own_st (f' := (mkF m 52 #[.val (.int p0), .val (.int p1), .val (.int p2), .val (.int p3), .val (.int p4), .val (.int (2 : Int32)), .val (.ref b6), .unset, .unset, .unset, .unset] [(.int p1)])) (fun t k => XS.iloadN X8.her hx rfl (hb hby at_51) rfl k) ?_
      refine own_st (f' := (mkF m 53 #[.val (.int p0), .val (.int p1), .val (.int p2), .val (.int p3), .val (.int p4), .val (.int (2 : Int32)), .val (.ref b6), .unset, .unset, .unset, .unset] [(.long (p1.toInt64))])) (fun t k => XS.i2l X8.her hx rfl (hb hby at_52) rfl k) ?_
      refine own_st (f' := (mkF m 54 #[.val (.int p0), .val (.int p1), .val (.int p2), .val (.int p3), .val (.int p4), .val (.int (2 : Int32)), .val (.ref b6), .unset, .unset, .unset, .unset] [(.int p2), (.long (p1.toInt64))])) (fun t k => XS.iloadN X8.her hx rfl (hb hby at_53) rfl k) ?_
      refine own_st (f' := (mkF m 55 #[.val (.int p0), .val (.int p1), .val (.int p2), .val (.int p3), .val (.int p4), .val (.int (2 : Int32)), .val (.ref b6), .unset, .unset, .unset, .unset] [(.long (p2.toInt64)), (.long (p1.toInt64))])) (fun t k => XS.i2l X8.her hx rfl (hb hby at_54) rfl k) ?_
      refine own_st (f' := (mkF m 56 #[.val (.int p0), .val (.int p1), .val (.int p2), .val (.int p3), .val (.int p4), .val (.int (2 : Int32)), .val (.ref b6), .unset, .unset, .unset, .unset] [(.long ((p1.toInt64) + (p2.toInt64)))])) (fun t k => XS.ladd X8.her hx rfl (hb hby at_55) rfl k) ?_
      refine own_st (f' := (mkF m 58 #[.val (.int p0), .val (.int p1), .val (.int p2), .val (.int p3), .val (.int p4), .val (.int (2 : Int32)), .val (.ref b6), .val (.long ((p1.toInt64) + (p2.toInt64))), .second, .unset, .unset] [])) (fun t k => XS.lstore X8.her hx rfl (hb hby at_56) rfl (l' := #[.val (.int p0), .val (.int p1), .val (.int p2), .val (.int p3), .val (.int p4), .val (.int (2 : Int32)), .val (.ref b6), .val (.long ((p1.toInt64) + (p2.toInt64))), .second, .unset, .unset]) rfl k) ?_
      refine own_st (f' := (mkF m 140 #[.val (.int p0), .val (.int p1), .val (.int p2), .val (.int p3), .val (.int p4), .val (.int (2 : Int32)), .val (.ref b6), .val (.long ((p1.toInt64) + (p2.toInt64))), .second, .unset, .unset] [])) (fun t k => XS.goto X8.her hx rfl (pc0 := 58) (pc' := 140) rfl (hb hby at_58) (by decide) (by decide) k) ?_
      refine own_st (f' := (mkF m 142 #[.val (.int p0), .val (.int p1), .val (.int p2), .val (.int p3), .val (.int p4), .val (.int (2 : Int32)), .val (.ref b6), .val (.long ((p1.toInt64) + (p2.toInt64))), .second, .unset, .unset] [(.long ((p1.toInt64) + (p2.toInt64)))])) (fun t k => XS.lload X8.her hx rfl (hb hby at_140) rfl k) ?_
      refine own_st (f' := (mkF m 143 #[.val (.int p0), .val (.int p1), .val (.int p2), .val (.int p3), .val (.int p4), .val (.int (2 : Int32)), .val (.ref b6), .val (.long ((p1.toInt64) + (p2.toInt64))), .second, .unset, .unset] [(.double (FP.l2d ((p1.toInt64) + (p2.toInt64))))])) (fun t k => XS.l2dS X8.her hx rfl (hb hby at_142) rfl rfl k) ?_
      refine own_st (f' := (mkF m 145 #[.val (.int p0), .val (.int p1), .val (.int p2), .val (.int p3), .val (.int p4), .val (.int (2 : Int32)), .val (.ref b6), .val (.long ((p1.toInt64) + (p2.toInt64))), .second, .unset, .unset] [(.int (2 : Int32)), (.double (FP.l2d ((p1.toInt64) + (p2.toInt64))))])) (fun t k => XS.iload X8.her hx rfl (hb hby at_143) rfl k) ?_
      refine own_st (f' := (mkF m 146 #[.val (.int p0), .val (.int p1), .val (.int p2), .val (.int p3), .val (.int p4), .val (.int (2 : Int32)), .val (.ref b6), .val (.long ((p1.toInt64) + (p2.toInt64))), .second, .unset, .unset] [(.double (FP.l2d ((2 : Int32)).toInt64)), (.double (FP.l2d ((p1.toInt64) + (p2.toInt64))))])) (fun t k => XS.i2dS X8.her hx rfl (hb hby at_145) rfl (i2d_w _) k) ?_
      refine own_st (f' := (mkF m 147 #[.val (.int p0), .val (.int p1), .val (.int p2), .val (.int p3), .val (.int p4), .val (.int (2 : Int32)), .val (.ref b6), .val (.long ((p1.toInt64) + (p2.toInt64))), .second, .unset, .unset] [(.double (FP.ddiv (FP.l2d ((p1.toInt64) + (p2.toInt64))) (FP.l2d ((2 : Int32)).toInt64)))])) (fun t k => XS.ddivS X8.her hx rfl (hb hby at_146) rfl (own_ndiv _ (by unfold Nz64; decide +kernel)) rfl k) ?_
      refine own_st (f' := (mkF m 149 #[.val (.int p0), .val (.int p1), .val (.int p2), .val (.int p3), .val (.int p4), .val (.int (2 : Int32)), .val (.ref b6), .val (.long ((p1.toInt64) + (p2.toInt64))), .second, .val (.double (FP.ddiv (FP.l2d ((p1.toInt64) + (p2.toInt64))) (FP.l2d ((2 : Int32)).toInt64))), .second] [])) (fun t k => XS.dstore X8.her hx rfl (hb hby at_147) rfl (l' := #[.val (.int p0), .val (.int p1), .val (.int p2), .val (.int p3), .val (.int p4), .val (.int (2 : Int32)), .val (.ref b6), .val (.long ((p1.toInt64) + (p2.toInt64))), .second, .val (.double (FP.ddiv (FP.l2d ((p1.toInt64) + (p2.toInt64))) (FP.l2d ((2 : Int32)).toInt64))), .second]) rfl k) ?_
      refine own_st (f' := (mkF m 151 #[.val (.int p0), .val (.int p1), .val (.int p2), .val (.int p3), .val (.int p4), .val (.int (2 : Int32)), .val (.ref b6), .val (.long ((p1.toInt64) + (p2.toInt64))), .second, .val (.double (FP.ddiv (FP.l2d ((p1.toInt64) + (p2.toInt64))) (FP.l2d ((2 : Int32)).toInt64))), .second] [(.ref b6)])) (fun t k => XS.aload X8.her hx rfl (hb hby at_149) rfl rfl k) ?_
      refine own_callSP (y := (⟨"com/example/bidwright/bidwright/tournament/Samples", "mean", "([D)D"⟩ : MethodName)) (W := 0) [(.ref b6)] X8 hx hZ hown (own_w1 hw) (own_w2 hw) (own_w3 hw) (own_w4 hw) (by decide) (own_m2 l Z a0 hw h8 n0 Zn8 b6 p1 p2 B8) (by decide) (by decide) (by decide) (by decide) (by rw [hml]; rfl) own_pd0 rfl rfl (Nat.le_of_eq rfl) (hb hby at_151) ?_
      intro T9 X9
      show own_G p e below _ T9 (mkF m 154 #[.val (.int p0), .val (.int p1), .val (.int p2), .val (.int p3), .val (.int p4), .val (.int (2 : Int32)), .val (.ref b6), .val (.long ((p1.toInt64) + (p2.toInt64))), .second, .val (.double (FP.ddiv (FP.l2d ((p1.toInt64) + (p2.toInt64))) (FP.l2d ((2 : Int32)).toInt64))), .second] [(.double (FP.ddiv (FP.l2d (((0 : Int64) + (p1).toInt64) + (p2).toInt64)) (FP.l2d (2 : Int32).toInt64)))])
      refine own_st (f' := (mkF m 156 #[.val (.int p0), .val (.int p1), .val (.int p2), .val (.int p3), .val (.int p4), .val (.int (2 : Int32)), .val (.ref b6), .val (.long ((p1.toInt64) + (p2.toInt64))), .second, .val (.double (FP.ddiv (FP.l2d ((p1.toInt64) + (p2.toInt64))) (FP.l2d ((2 : Int32)).toInt64))), .second] [(.double (FP.ddiv (FP.l2d ((p1.toInt64) + (p2.toInt64))) (FP.l2d ((2 : Int32)).toInt64))), (.double (FP.ddiv (FP.l2d (((0 : Int64) + (p1).toInt64) + (p2).toInt64)) (FP.l2d (2 : Int32).toInt64)))])) (fun t k => XS.dload X9.her hx rfl (hb hby at_154) rfl k) ?_
      refine own_st (f' := (mkF m 157 #[.val (.int p0), .val (.int p1), .val (.int p2), .val (.int p3), .val (.int p4), .val (.int (2 : Int32)), .val (.ref b6), .val (.long ((p1.toInt64) + (p2.toInt64))), .second, .val (.double (FP.ddiv (FP.l2d ((p1.toInt64) + (p2.toInt64))) (FP.l2d ((2 : Int32)).toInt64))), .second] [(.int (cmpValue (FP.dcmp (FP.ddiv (FP.l2d (((0 : Int64) + (p1).toInt64) + (p2).toInt64)) (FP.l2d (2 : Int32).toInt64)) (FP.ddiv (FP.l2d ((p1.toInt64) + (p2.toInt64))) (FP.l2d ((2 : Int32)).toInt64))) .l))])) (fun t k => XS.dcmpS X9.her hx rfl (hb hby at_156) rfl rfl k) ?_
      refine own_st (f' := (mkF m 160 #[.val (.int p0), .val (.int p1), .val (.int p2), .val (.int p3), .val (.int p4), .val (.int (2 : Int32)), .val (.ref b6), .val (.long ((p1.toInt64) + (p2.toInt64))), .second, .val (.double (FP.ddiv (FP.l2d ((p1.toInt64) + (p2.toInt64))) (FP.l2d ((2 : Int32)).toInt64))), .second] [])) (fun t k => XS.ifNo X9.her hx rfl (hb hby at_157) rfl ((if0 _ _).trans (teq (own_cmp (by simp only [Int64.zero_add]) (own_ndiv _ (by unfold Nz64; decide +kernel)) : (cmpValue (FP.dcmp (FP.ddiv (FP.l2d (((0 : Int64) + (p1).toInt64) + (p2).toInt64)) (FP.l2d (2 : Int32).toInt64)) (FP.ddiv (FP.l2d ((p1.toInt64) + (p2.toInt64))) (FP.l2d ((2 : Int32)).toInt64))) .l) = (0 : Int32))).2) k) ?_
      refine own_st (f' := (mkF m 161 #[.val (.int p0), .val (.int p1), .val (.int p2), .val (.int p3), .val (.int p4), .val (.int (2 : Int32)), .val (.ref b6), .val (.long ((p1.toInt64) + (p2.toInt64))), .second, .val (.double (FP.ddiv (FP.l2d ((p1.toInt64) + (p2.toInt64))) (FP.l2d ((2 : Int32)).toInt64))), .second] [(.int (1 : Int32))])) (fun t k => XS.iconst X9.her hx rfl (hb hby at_160) k) ?_
      refine own_st (f' := (mkF m 165 #[.val (.int p0), .val (.int p1), .val (.int p2), .val (.int p3), .val (.int p4), .val (.int (2 : Int32)), .val (.ref b6), .val (.long ((p1.toInt64) + (p2.toInt64))), .second, .val (.double (FP.ddiv (FP.l2d ((p1.toInt64) + (p2.toInt64))) (FP.l2d ((2 : Int32)).toInt64))), .second] [(.int (1 : Int32))])) (fun t k => XS.goto X9.her hx rfl (pc0 := 161) (pc' := 165) rfl (hb hby at_161) (by decide) (by decide) k) ?_
      refine own_retN (t := .boolean) X9 hx hret hlk (by simp) (hb hby at_165) (by first | decide | omega) (by first | decide | omega) ?_
      exact congrArg (fun q => some (Value.int q)) (by decide)
    · refine own_st (f' := (mkF m 61 #[.val (.int p0), .val (.int p1), .val (.int p2), .val (.int p3), .val (.int p4), .val (.int (own_t0_5 p0 p1 p2 p3 p4)), .unset, .unset, .unset, .unset, .unset] [])) (fun t k => XS.icmpYes X0.her hx rfl (pc0 := 33) (pc' := 61) rfl (hb hby at_33) rfl (feq hc5).2 (by decide) (by decide) k) ?_
      refine own_st (f' := (mkF m 63 #[.val (.int p0), .val (.int p1), .val (.int p2), .val (.int p3), .val (.int p4), .val (.int (own_t0_5 p0 p1 p2 p3 p4)), .unset, .unset, .unset, .unset, .unset] [(.int (own_t0_5 p0 p1 p2 p3 p4))])) (fun t k => XS.iload X0.her hx rfl (hb hby at_61) rfl k) ?_
      refine own_st (f' := (mkF m 64 #[.val (.int p0), .val (.int p1), .val (.int p2), .val (.int p3), .val (.int p4), .val (.int (own_t0_5 p0 p1 p2 p3 p4)), .unset, .unset, .unset, .unset, .unset] [(.int (3 : Int32)), (.int (own_t0_5 p0 p1 p2 p3 p4))])) (fun t k => XS.iconst X0.her hx rfl (hb hby at_63) k) ?_
      by_cases hc10 : (own_t0_5 p0 p1 p2 p3 p4) = (3 : Int32)
      · refine own_st (f' := (mkF m 67 #[.val (.int p0), .val (.int p1), .val (.int p2), .val (.int p3), .val (.int p4), .val (.int (own_t0_5 p0 p1 p2 p3 p4)), .unset, .unset, .unset, .unset, .unset] [])) (fun t k => XS.icmpNo X0.her hx rfl (hb hby at_64) rfl (teq hc10).2 k) ?_
        rw [hc10]
        refine own_st (f' := (mkF m 68 #[.val (.int p0), .val (.int p1), .val (.int p2), .val (.int p3), .val (.int p4), .val (.int (3 : Int32)), .unset, .unset, .unset, .unset, .unset] [(.int (3 : Int32))])) (fun t k => XS.iconst X0.her hx rfl (hb hby at_67) k) ?_
        refine own_newD (kk := 3) X0 hx hZ (own_w0 hw) (by decide) rfl (by decide) (by decide) (by decide) (hb hby at_68) ?_
        intro T11 h11 b11 g11 q11 X11 E11 B11
        replace B11 : own_DA Z h11 b11 [(0 : UInt64), (0 : UInt64), (0 : UInt64)] := B11
        have ga_b11 : n0 ≤ b11 := Nat.le_trans Z0 q11
        have Zn11 : n0 ≤ h11.size := Nat.le_trans Z0 E11.1
        refine own_st (f' := (mkF m 71 #[.val (.int p0), .val (.int p1), .val (.int p2), .val (.int p3), .val (.int p4), .val (.int (3 : Int32)), .unset, .unset, .unset, .unset, .unset] [(.ref b11), (.ref b11)])) (fun t k => XS.dup X11.her hx rfl (hb hby at_70) rfl rfl k) ?_
        refine own_st (f' := (mkF m 72 #[.val (.int p0), .val (.int p1), .val (.int p2), .val (.int p3), .val (.int p4), .val (.int (3 : Int32)), .unset, .unset, .unset, .unset, .unset] [(.int (0 : Int32)), (.ref b11), (.ref b11)])) (fun t k => XS.iconst X11.her hx rfl (hb hby at_71) k) ?_
        refine own_st (f' := (mkF m 73 #[.val (.int p0), .val (.int p1), .val (.int p2), .val (.int p3), .val (.int p4), .val (.int (3 : Int32)), .unset, .unset, .unset, .unset, .unset] [(.int p1), (.int (0 : Int32)), (.ref b11), (.ref b11)])) (fun t k => XS.iloadN X11.her hx rfl (hb hby at_72) rfl k) ?_
        refine own_st (f' := (mkF m 74 #[.val (.int p0), .val (.int p1), .val (.int p2), .val (.int p3), .val (.int p4), .val (.int (3 : Int32)), .unset, .unset, .unset, .unset, .unset] [(.double (FP.l2d (p1).toInt64)), (.int (0 : Int32)), (.ref b11), (.ref b11)])) (fun t k => XS.i2dS X11.her hx rfl (hb hby at_73) rfl (i2d_w _) k) ?_
        refine own_dstore X11 hx hZ B11 (by decide) (by show 0 < 3; decide) (hb hby at_74) ga_b11 (Or.inr q11) ?_
        intro T12 h12 X12 K12 B12
        replace B12 : own_DA Z h12 b11 [(FP.l2d (p1).toInt64), (0 : UInt64), (0 : UInt64)] := B12
        have Zn12 : n0 ≤ h12.size := Nat.le_trans Zn11 K12.1
        refine own_st (f' := (mkF m 76 #[.val (.int p0), .val (.int p1), .val (.int p2), .val (.int p3), .val (.int p4), .val (.int (3 : Int32)), .unset, .unset, .unset, .unset, .unset] [(.ref b11), (.ref b11)])) (fun t k => XS.dup X12.her hx rfl (hb hby at_75) rfl rfl k) ?_
        refine own_st (f' := (mkF m 77 #[.val (.int p0), .val (.int p1), .val (.int p2), .val (.int p3), .val (.int p4), .val (.int (3 : Int32)), .unset, .unset, .unset, .unset, .unset] [(.int (1 : Int32)), (.ref b11), (.ref b11)])) (fun t k => XS.iconst X12.her hx rfl (hb hby at_76) k) ?_
        refine own_st (f' := (mkF m 78 #[.val (.int p0), .val (.int p1), .val (.int p2), .val (.int p3), .val (.int p4), .val (.int (3 : Int32)), .unset, .unset, .unset, .unset, .unset] [(.int p2), (.int (1 : Int32)), (.ref b11), (.ref b11)])) (fun t k => XS.iloadN X12.her hx rfl (hb hby at_77) rfl k) ?_
        refine own_st (f' := (mkF m 79 #[.val (.int p0), .val (.int p1), .val (.int p2), .val (.int p3), .val (.int p4), .val (.int (3 : Int32)), .unset, .unset, .unset, .unset, .unset] [(.double (FP.l2d (p2).toInt64)), (.int (1 : Int32)), (.ref b11), (.ref b11)])) (fun t k => XS.i2dS X12.her hx rfl (hb hby at_78) rfl (i2d_w _) k) ?_
        refine own_dstore X12 hx hZ B12 (by decide) (by show 1 < 3; decide) (hb hby at_79) ga_b11 (Or.inr q11) ?_
        intro T13 h13 X13 K13 B13
        replace B13 : own_DA Z h13 b11 [(FP.l2d (p1).toInt64), (FP.l2d (p2).toInt64), (0 : UInt64)] := B13
        have Zn13 : n0 ≤ h13.size := Nat.le_trans Zn12 K13.1
        refine own_st (f' := (mkF m 81 #[.val (.int p0), .val (.int p1), .val (.int p2), .val (.int p3), .val (.int p4), .val (.int (3 : Int32)), .unset, .unset, .unset, .unset, .unset] [(.ref b11), (.ref b11)])) (fun t k => XS.dup X13.her hx rfl (hb hby at_80) rfl rfl k) ?_
        refine own_st (f' := (mkF m 82 #[.val (.int p0), .val (.int p1), .val (.int p2), .val (.int p3), .val (.int p4), .val (.int (3 : Int32)), .unset, .unset, .unset, .unset, .unset] [(.int (2 : Int32)), (.ref b11), (.ref b11)])) (fun t k => XS.iconst X13.her hx rfl (hb hby at_81) k) ?_
        refine own_st (f' := (mkF m 83 #[.val (.int p0), .val (.int p1), .val (.int p2), .val (.int p3), .val (.int p4), .val (.int (3 : Int32)), .unset, .unset, .unset, .unset, .unset] [(.int p3), (.int (2 : Int32)), (.ref b11), (.ref b11)])) (fun t k => XS.iloadN X13.her hx rfl (hb hby at_82) rfl k) ?_
        refine own_st (f' := (mkF m 84 #[.val (.int p0), .val (.int p1), .val (.int p2), .val (.int p3), .val (.int p4), .val (.int (3 : Int32)), .unset, .unset, .unset, .unset, .unset] [(.double (FP.l2d (p3).toInt64)), (.int (2 : Int32)), (.ref b11), (.ref b11)])) (fun t k => XS.i2dS X13.her hx rfl (hb hby at_83) rfl (i2d_w _) k) ?_
        refine own_dstore X13 hx hZ B13 (by decide) (by show 2 < 3; decide) (hb hby at_84) ga_b11 (Or.inr q11) ?_
        intro T14 h14 X14 K14 B14
        replace B14 : own_DA Z h14 b11 [(FP.l2d (p1).toInt64), (FP.l2d (p2).toInt64), (FP.l2d (p3).toInt64)] := B14
        have Zn14 : n0 ≤ h14.size := Nat.le_trans Zn13 K14.1
        refine own_st (f' := (mkF m 87 #[.val (.int p0), .val (.int p1), .val (.int p2), .val (.int p3), .val (.int p4), .val (.int (3 : Int32)), .val (.ref b11), .unset, .unset, .unset, .unset] [])) (fun t k => XS.astore X14.her hx rfl (hb hby at_85) rfl rfl (l' := #[.val (.int p0), .val (.int p1), .val (.int p2), .val (.int p3), .val (.int p4), .val (.int (3 : Int32)), .val (.ref b11), .unset, .unset, .unset, .unset]) rfl k) ?_
        refine own_st (f' := (mkF m 88 #[.val (.int p0), .val (.int p1), .val (.int p2), .val (.int p3), .val (.int p4), .val (.int (3 : Int32)), .val (.ref b11), .unset, .unset, .unset, .unset] [(.int p1)])) (fun t k => XS.iloadN X14.her hx rfl (hb hby at_87) rfl k) ?_
        refine own_st (f' := (mkF m 89 #[.val (.int p0), .val (.int p1), .val (.int p2), .val (.int p3), .val (.int p4), .val (.int (3 : Int32)), .val (.ref b11), .unset, .unset, .unset, .unset] [(.long (p1.toInt64))])) (fun t k => XS.i2l X14.her hx rfl (hb hby at_88) rfl k) ?_
        refine own_st (f' := (mkF m 90 #[.val (.int p0), .val (.int p1), .val (.int p2), .val (.int p3), .val (.int p4), .val (.int (3 : Int32)), .val (.ref b11), .unset, .unset, .unset, .unset] [(.int p2), (.long (p1.toInt64))])) (fun t k => XS.iloadN X14.her hx rfl (hb hby at_89) rfl k) ?_
        refine own_st (f' := (mkF m 91 #[.val (.int p0), .val (.int p1), .val (.int p2), .val (.int p3), .val (.int p4), .val (.int (3 : Int32)), .val (.ref b11), .unset, .unset, .unset, .unset] [(.long (p2.toInt64)), (.long (p1.toInt64))])) (fun t k => XS.i2l X14.her hx rfl (hb hby at_90) rfl k) ?_
        refine own_st (f' := (mkF m 92 #[.val (.int p0), .val (.int p1), .val (.int p2), .val (.int p3), .val (.int p4), .val (.int (3 : Int32)), .val (.ref b11), .unset, .unset, .unset, .unset] [(.long ((p1.toInt64) + (p2.toInt64)))])) (fun t k => XS.ladd X14.her hx rfl (hb hby at_91) rfl k) ?_
        refine own_st (f' := (mkF m 93 #[.val (.int p0), .val (.int p1), .val (.int p2), .val (.int p3), .val (.int p4), .val (.int (3 : Int32)), .val (.ref b11), .unset, .unset, .unset, .unset] [(.int p3), (.long ((p1.toInt64) + (p2.toInt64)))])) (fun t k => XS.iloadN X14.her hx rfl (hb hby at_92) rfl k) ?_
        refine own_st (f' := (mkF m 94 #[.val (.int p0), .val (.int p1), .val (.int p2), .val (.int p3), .val (.int p4), .val (.int (3 : Int32)), .val (.ref b11), .unset, .unset, .unset, .unset] [(.long (p3.toInt64)), (.long ((p1.toInt64) + (p2.toInt64)))])) (fun t k => XS.i2l X14.her hx rfl (hb hby at_93) rfl k) ?_
        refine own_st (f' := (mkF m 95 #[.val (.int p0), .val (.int p1), .val (.int p2), .val (.int p3), .val (.int p4), .val (.int (3 : Int32)), .val (.ref b11), .unset, .unset, .unset, .unset] [(.long (((p1.toInt64) + (p2.toInt64)) + (p3.toInt64)))])) (fun t k => XS.ladd X14.her hx rfl (hb hby at_94) rfl k) ?_
        refine own_st (f' := (mkF m 97 #[.val (.int p0), .val (.int p1), .val (.int p2), .val (.int p3), .val (.int p4), .val (.int (3 : Int32)), .val (.ref b11), .val (.long (((p1.toInt64) + (p2.toInt64)) + (p3.toInt64))), .second, .unset, .unset] [])) (fun t k => XS.lstore X14.her hx rfl (hb hby at_95) rfl (l' := #[.val (.int p0), .val (.int p1), .val (.int p2), .val (.int p3), .val (.int p4), .val (.int (3 : Int32)), .val (.ref b11), .val (.long (((p1.toInt64) + (p2.toInt64)) + (p3.toInt64))), .second, .unset, .unset]) rfl k) ?_
        refine own_st (f' := (mkF m 140 #[.val (.int p0), .val (.int p1), .val (.int p2), .val (.int p3), .val (.int p4), .val (.int (3 : Int32)), .val (.ref b11), .val (.long (((p1.toInt64) + (p2.toInt64)) + (p3.toInt64))), .second, .unset, .unset] [])) (fun t k => XS.goto X14.her hx rfl (pc0 := 97) (pc' := 140) rfl (hb hby at_97) (by decide) (by decide) k) ?_
        refine own_st (f' := (mkF m 142 #[.val (.int p0), .val (.int p1), .val (.int p2), .val (.int p3), .val (.int p4), .val (.int (3 : Int32)), .val (.ref b11), .val (.long (((p1.toInt64) + (p2.toInt64)) + (p3.toInt64))), .second, .unset, .unset] [(.long (((p1.toInt64) + (p2.toInt64)) + (p3.toInt64)))])) (fun t k => XS.lload X14.her hx rfl (hb hby at_140) rfl k) ?_
        refine own_st (f' := (mkF m 143 #[.val (.int p0), .val (.int p1), .val (.int p2), .val (.int p3), .val (.int p4), .val (.int (3 : Int32)), .val (.ref b11), .val (.long (((p1.toInt64) + (p2.toInt64)) + (p3.toInt64))), .second, .unset, .unset] [(.double (FP.l2d (((p1.toInt64) + (p2.toInt64)) + (p3.toInt64))))])) (fun t k => XS.l2dS X14.her hx rfl (hb hby at_142) rfl rfl k) ?_
        refine own_st (f' := (mkF m 145 #[.val (.int p0), .val (.int p1), .val (.int p2), .val (.int p3), .val (.int p4), .val (.int (3 : Int32)), .val (.ref b11), .val (.long (((p1.toInt64) + (p2.toInt64)) + (p3.toInt64))), .second, .unset, .unset] [(.int (3 : Int32)), (.double (FP.l2d (((p1.toInt64) + (p2.toInt64)) + (p3.toInt64))))])) (fun t k => XS.iload X14.her hx rfl (hb hby at_143) rfl k) ?_
        refine own_st (f' := (mkF m 146 #[.val (.int p0), .val (.int p1), .val (.int p2), .val (.int p3), .val (.int p4), .val (.int (3 : Int32)), .val (.ref b11), .val (.long (((p1.toInt64) + (p2.toInt64)) + (p3.toInt64))), .second, .unset, .unset] [(.double (FP.l2d ((3 : Int32)).toInt64)), (.double (FP.l2d (((p1.toInt64) + (p2.toInt64)) + (p3.toInt64))))])) (fun t k => XS.i2dS X14.her hx rfl (hb hby at_145) rfl (i2d_w _) k) ?_
        refine own_st (f' := (mkF m 147 #[.val (.int p0), .val (.int p1), .val (.int p2), .val (.int p3), .val (.int p4), .val (.int (3 : Int32)), .val (.ref b11), .val (.long (((p1.toInt64) + (p2.toInt64)) + (p3.toInt64))), .second, .unset, .unset] [(.double (FP.ddiv (FP.l2d (((p1.toInt64) + (p2.toInt64)) + (p3.toInt64))) (FP.l2d ((3 : Int32)).toInt64)))])) (fun t k => XS.ddivS X14.her hx rfl (hb hby at_146) rfl (own_ndiv _ (by unfold Nz64; decide +kernel)) rfl k) ?_
        refine own_st (f' := (mkF m 149 #[.val (.int p0), .val (.int p1), .val (.int p2), .val (.int p3), .val (.int p4), .val (.int (3 : Int32)), .val (.ref b11), .val (.long (((p1.toInt64) + (p2.toInt64)) + (p3.toInt64))), .second, .val (.double (FP.ddiv (FP.l2d (((p1.toInt64) + (p2.toInt64)) + (p3.toInt64))) (FP.l2d ((3 : Int32)).toInt64))), .second] [])) (fun t k => XS.dstore X14.her hx rfl (hb hby at_147) rfl (l' := #[.val (.int p0), .val (.int p1), .val (.int p2), .val (.int p3), .val (.int p4), .val (.int (3 : Int32)), .val (.ref b11), .val (.long (((p1.toInt64) + (p2.toInt64)) + (p3.toInt64))), .second, .val (.double (FP.ddiv (FP.l2d (((p1.toInt64) + (p2.toInt64)) + (p3.toInt64))) (FP.l2d ((3 : Int32)).toInt64))), .second]) rfl k) ?_
        refine own_st (f' := (mkF m 151 #[.val (.int p0), .val (.int p1), .val (.int p2), .val (.int p3), .val (.int p4), .val (.int (3 : Int32)), .val (.ref b11), .val (.long (((p1.toInt64) + (p2.toInt64)) + (p3.toInt64))), .second, .val (.double (FP.ddiv (FP.l2d (((p1.toInt64) + (p2.toInt64)) + (p3.toInt64))) (FP.l2d ((3 : Int32)).toInt64))), .second] [(.ref b11)])) (fun t k => XS.aload X14.her hx rfl (hb hby at_149) rfl rfl k) ?_
        refine own_callSP (y := (⟨"com/example/bidwright/bidwright/tournament/Samples", "mean", "([D)D"⟩ : MethodName)) (W := 0) [(.ref b11)] X14 hx hZ hown (own_w1 hw) (own_w2 hw) (own_w3 hw) (own_w4 hw) (by decide) (own_m3 l Z a0 hw h14 n0 Zn14 b11 p1 p2 p3 B14) (by decide) (by decide) (by decide) (by decide) (by rw [hml]; rfl) own_pd0 rfl rfl (Nat.le_of_eq rfl) (hb hby at_151) ?_
        intro T15 X15
        show own_G p e below _ T15 (mkF m 154 #[.val (.int p0), .val (.int p1), .val (.int p2), .val (.int p3), .val (.int p4), .val (.int (3 : Int32)), .val (.ref b11), .val (.long (((p1.toInt64) + (p2.toInt64)) + (p3.toInt64))), .second, .val (.double (FP.ddiv (FP.l2d (((p1.toInt64) + (p2.toInt64)) + (p3.toInt64))) (FP.l2d ((3 : Int32)).toInt64))), .second] [(.double (FP.ddiv (FP.l2d ((((0 : Int64) + (p1).toInt64) + (p2).toInt64) + (p3).toInt64)) (FP.l2d (3 : Int32).toInt64)))])
        refine own_st (f' := (mkF m 156 #[.val (.int p0), .val (.int p1), .val (.int p2), .val (.int p3), .val (.int p4), .val (.int (3 : Int32)), .val (.ref b11), .val (.long (((p1.toInt64) + (p2.toInt64)) + (p3.toInt64))), .second, .val (.double (FP.ddiv (FP.l2d (((p1.toInt64) + (p2.toInt64)) + (p3.toInt64))) (FP.l2d ((3 : Int32)).toInt64))), .second] [(.double (FP.ddiv (FP.l2d (((p1.toInt64) + (p2.toInt64)) + (p3.toInt64))) (FP.l2d ((3 : Int32)).toInt64))), (.double (FP.ddiv (FP.l2d ((((0 : Int64) + (p1).toInt64) + (p2).toInt64) + (p3).toInt64)) (FP.l2d (3 : Int32).toInt64)))])) (fun t k => XS.dload X15.her hx rfl (hb hby at_154) rfl k) ?_
        refine own_st (f' := (mkF m 157 #[.val (.int p0), .val (.int p1), .val (.int p2), .val (.int p3), .val (.int p4), .val (.int (3 : Int32)), .val (.ref b11), .val (.long (((p1.toInt64) + (p2.toInt64)) + (p3.toInt64))), .second, .val (.double (FP.ddiv (FP.l2d (((p1.toInt64) + (p2.toInt64)) + (p3.toInt64))) (FP.l2d ((3 : Int32)).toInt64))), .second] [(.int (cmpValue (FP.dcmp (FP.ddiv (FP.l2d ((((0 : Int64) + (p1).toInt64) + (p2).toInt64) + (p3).toInt64)) (FP.l2d (3 : Int32).toInt64)) (FP.ddiv (FP.l2d (((p1.toInt64) + (p2.toInt64)) + (p3.toInt64))) (FP.l2d ((3 : Int32)).toInt64))) .l))])) (fun t k => XS.dcmpS X15.her hx rfl (hb hby at_156) rfl rfl k) ?_
        refine own_st (f' := (mkF m 160 #[.val (.int p0), .val (.int p1), .val (.int p2), .val (.int p3), .val (.int p4), .val (.int (3 : Int32)), .val (.ref b11), .val (.long (((p1.toInt64) + (p2.toInt64)) + (p3.toInt64))), .second, .val (.double (FP.ddiv (FP.l2d (((p1.toInt64) + (p2.toInt64)) + (p3.toInt64))) (FP.l2d ((3 : Int32)).toInt64))), .second] [])) (fun t k => XS.ifNo X15.her hx rfl (hb hby at_157) rfl ((if0 _ _).trans (teq (own_cmp (by simp only [Int64.zero_add]) (own_ndiv _ (by unfold Nz64; decide +kernel)) : (cmpValue (FP.dcmp (FP.ddiv (FP.l2d ((((0 : Int64) + (p1).toInt64) + (p2).toInt64) + (p3).toInt64)) (FP.l2d (3 : Int32).toInt64)) (FP.ddiv (FP.l2d (((p1.toInt64) + (p2.toInt64)) + (p3.toInt64))) (FP.l2d ((3 : Int32)).toInt64))) .l) = (0 : Int32))).2) k) ?_
        refine own_st (f' := (mkF m 161 #[.val (.int p0), .val (.int p1), .val (.int p2), .val (.int p3), .val (.int p4), .val (.int (3 : Int32)), .val (.ref b11), .val (.long (((p1.toInt64) + (p2.toInt64)) + (p3.toInt64))), .second, .val (.double (FP.ddiv (FP.l2d (((p1.toInt64) + (p2.toInt64)) + (p3.toInt64))) (FP.l2d ((3 : Int32)).toInt64))), .second] [(.int (1 : Int32))])) (fun t k => XS.iconst X15.her hx rfl (hb hby at_160) k) ?_
        refine own_st (f' := (mkF m 165 #[.val (.int p0), .val (.int p1), .val (.int p2), .val (.int p3), .val (.int p4), .val (.int (3 : Int32)), .val (.ref b11), .val (.long (((p1.toInt64) + (p2.toInt64)) + (p3.toInt64))), .second, .val (.double (FP.ddiv (FP.l2d (((p1.toInt64) + (p2.toInt64)) + (p3.toInt64))) (FP.l2d ((3 : Int32)).toInt64))), .second] [(.int (1 : Int32))])) (fun t k => XS.goto X15.her hx rfl (pc0 := 161) (pc' := 165) rfl (hb hby at_161) (by decide) (by decide) k) ?_
        refine own_retN (t := .boolean) X15 hx hret hlk (by simp) (hb hby at_165) (by first | decide | omega) (by first | decide | omega) ?_
        exact congrArg (fun q => some (Value.int q)) (by decide)
      · refine own_st (f' := (mkF m 100 #[.val (.int p0), .val (.int p1), .val (.int p2), .val (.int p3), .val (.int p4), .val (.int (own_t0_5 p0 p1 p2 p3 p4)), .unset, .unset, .unset, .unset, .unset] [])) (fun t k => XS.icmpYes X0.her hx rfl (pc0 := 64) (pc' := 100) rfl (hb hby at_64) rfl (feq hc10).2 (by decide) (by decide) k) ?_
        rw [own_four p0 p1 p2 p3 p4 hc1 hc5 hc10]
        refine own_st (f' := (mkF m 101 #[.val (.int p0), .val (.int p1), .val (.int p2), .val (.int p3), .val (.int p4), .val (.int (4 : Int32)), .unset, .unset, .unset, .unset, .unset] [(.int (4 : Int32))])) (fun t k => XS.iconst X0.her hx rfl (hb hby at_100) k) ?_
        refine own_newD (kk := 4) X0 hx hZ (own_w0 hw) (by decide) rfl (by decide) (by decide) (by decide) (hb hby at_101) ?_
        intro T16 h16 b16 g16 q16 X16 E16 B16
        replace B16 : own_DA Z h16 b16 [(0 : UInt64), (0 : UInt64), (0 : UInt64), (0 : UInt64)] := B16
        have ga_b16 : n0 ≤ b16 := Nat.le_trans Z0 q16
        have Zn16 : n0 ≤ h16.size := Nat.le_trans Z0 E16.1
        refine own_st (f' := (mkF m 104 #[.val (.int p0), .val (.int p1), .val (.int p2), .val (.int p3), .val (.int p4), .val (.int (4 : Int32)), .unset, .unset, .unset, .unset, .unset] [(.ref b16), (.ref b16)])) (fun t k => XS.dup X16.her hx rfl (hb hby at_103) rfl rfl k) ?_
        refine own_st (f' := (mkF m 105 #[.val (.int p0), .val (.int p1), .val (.int p2), .val (.int p3), .val (.int p4), .val (.int (4 : Int32)), .unset, .unset, .unset, .unset, .unset] [(.int (0 : Int32)), (.ref b16), (.ref b16)])) (fun t k => XS.iconst X16.her hx rfl (hb hby at_104) k) ?_
        refine own_st (f' := (mkF m 106 #[.val (.int p0), .val (.int p1), .val (.int p2), .val (.int p3), .val (.int p4), .val (.int (4 : Int32)), .unset, .unset, .unset, .unset, .unset] [(.int p1), (.int (0 : Int32)), (.ref b16), (.ref b16)])) (fun t k => XS.iloadN X16.her hx rfl (hb hby at_105) rfl k) ?_
        refine own_st (f' := (mkF m 107 #[.val (.int p0), .val (.int p1), .val (.int p2), .val (.int p3), .val (.int p4), .val (.int (4 : Int32)), .unset, .unset, .unset, .unset, .unset] [(.double (FP.l2d (p1).toInt64)), (.int (0 : Int32)), (.ref b16), (.ref b16)])) (fun t k => XS.i2dS X16.her hx rfl (hb hby at_106) rfl (i2d_w _) k) ?_
        refine own_dstore X16 hx hZ B16 (by decide) (by show 0 < 4; decide) (hb hby at_107) ga_b16 (Or.inr q16) ?_
        intro T17 h17 X17 K17 B17
        replace B17 : own_DA Z h17 b16 [(FP.l2d (p1).toInt64), (0 : UInt64), (0 : UInt64), (0 : UInt64)] := B17
        have Zn17 : n0 ≤ h17.size := Nat.le_trans Zn16 K17.1
        refine own_st (f' := (mkF m 109 #[.val (.int p0), .val (.int p1), .val (.int p2), .val (.int p3), .val (.int p4), .val (.int (4 : Int32)), .unset, .unset, .unset, .unset, .unset] [(.ref b16), (.ref b16)])) (fun t k => XS.dup X17.her hx rfl (hb hby at_108) rfl rfl k) ?_
        refine own_st (f' := (mkF m 110 #[.val (.int p0), .val (.int p1), .val (.int p2), .val (.int p3), .val (.int p4), .val (.int (4 : Int32)), .unset, .unset, .unset, .unset, .unset] [(.int (1 : Int32)), (.ref b16), (.ref b16)])) (fun t k => XS.iconst X17.her hx rfl (hb hby at_109) k) ?_
        refine own_st (f' := (mkF m 111 #[.val (.int p0), .val (.int p1), .val (.int p2), .val (.int p3), .val (.int p4), .val (.int (4 : Int32)), .unset, .unset, .unset, .unset, .unset] [(.int p2), (.int (1 : Int32)), (.ref b16), (.ref b16)])) (fun t k => XS.iloadN X17.her hx rfl (hb hby at_110) rfl k) ?_
        refine own_st (f' := (mkF m 112 #[.val (.int p0), .val (.int p1), .val (.int p2), .val (.int p3), .val (.int p4), .val (.int (4 : Int32)), .unset, .unset, .unset, .unset, .unset] [(.double (FP.l2d (p2).toInt64)), (.int (1 : Int32)), (.ref b16), (.ref b16)])) (fun t k => XS.i2dS X17.her hx rfl (hb hby at_111) rfl (i2d_w _) k) ?_
        refine own_dstore X17 hx hZ B17 (by decide) (by show 1 < 4; decide) (hb hby at_112) ga_b16 (Or.inr q16) ?_
        intro T18 h18 X18 K18 B18
        replace B18 : own_DA Z h18 b16 [(FP.l2d (p1).toInt64), (FP.l2d (p2).toInt64), (0 : UInt64), (0 : UInt64)] := B18
        have Zn18 : n0 ≤ h18.size := Nat.le_trans Zn17 K18.1
        refine own_st (f' := (mkF m 114 #[.val (.int p0), .val (.int p1), .val (.int p2), .val (.int p3), .val (.int p4), .val (.int (4 : Int32)), .unset, .unset, .unset, .unset, .unset] [(.ref b16), (.ref b16)])) (fun t k => XS.dup X18.her hx rfl (hb hby at_113) rfl rfl k) ?_
        refine own_st (f' := (mkF m 115 #[.val (.int p0), .val (.int p1), .val (.int p2), .val (.int p3), .val (.int p4), .val (.int (4 : Int32)), .unset, .unset, .unset, .unset, .unset] [(.int (2 : Int32)), (.ref b16), (.ref b16)])) (fun t k => XS.iconst X18.her hx rfl (hb hby at_114) k) ?_
        refine own_st (f' := (mkF m 116 #[.val (.int p0), .val (.int p1), .val (.int p2), .val (.int p3), .val (.int p4), .val (.int (4 : Int32)), .unset, .unset, .unset, .unset, .unset] [(.int p3), (.int (2 : Int32)), (.ref b16), (.ref b16)])) (fun t k => XS.iloadN X18.her hx rfl (hb hby at_115) rfl k) ?_
        refine own_st (f' := (mkF m 117 #[.val (.int p0), .val (.int p1), .val (.int p2), .val (.int p3), .val (.int p4), .val (.int (4 : Int32)), .unset, .unset, .unset, .unset, .unset] [(.double (FP.l2d (p3).toInt64)), (.int (2 : Int32)), (.ref b16), (.ref b16)])) (fun t k => XS.i2dS X18.her hx rfl (hb hby at_116) rfl (i2d_w _) k) ?_
        refine own_dstore X18 hx hZ B18 (by decide) (by show 2 < 4; decide) (hb hby at_117) ga_b16 (Or.inr q16) ?_
        intro T19 h19 X19 K19 B19
        replace B19 : own_DA Z h19 b16 [(FP.l2d (p1).toInt64), (FP.l2d (p2).toInt64), (FP.l2d (p3).toInt64), (0 : UInt64)] := B19
        have Zn19 : n0 ≤ h19.size := Nat.le_trans Zn18 K19.1
        refine own_st (f' := (mkF m 119 #[.val (.int p0), .val (.int p1), .val (.int p2), .val (.int p3), .val (.int p4), .val (.int (4 : Int32)), .unset, .unset, .unset, .unset, .unset] [(.ref b16), (.ref b16)])) (fun t k => XS.dup X19.her hx rfl (hb hby at_118) rfl rfl k) ?_
        refine own_st (f' := (mkF m 120 #[.val (.int p0), .val (.int p1), .val (.int p2), .val (.int p3), .val (.int p4), .val (.int (4 : Int32)), .unset, .unset, .unset, .unset, .unset] [(.int (3 : Int32)), (.ref b16), (.ref b16)])) (fun t k => XS.iconst X19.her hx rfl (hb hby at_119) k) ?_
        refine own_st (f' := (mkF m 122 #[.val (.int p0), .val (.int p1), .val (.int p2), .val (.int p3), .val (.int p4), .val (.int (4 : Int32)), .unset, .unset, .unset, .unset, .unset] [(.int p4), (.int (3 : Int32)), (.ref b16), (.ref b16)])) (fun t k => XS.iload X19.her hx rfl (hb hby at_120) rfl k) ?_
        refine own_st (f' := (mkF m 123 #[.val (.int p0), .val (.int p1), .val (.int p2), .val (.int p3), .val (.int p4), .val (.int (4 : Int32)), .unset, .unset, .unset, .unset, .unset] [(.double (FP.l2d (p4).toInt64)), (.int (3 : Int32)), (.ref b16), (.ref b16)])) (fun t k => XS.i2dS X19.her hx rfl (hb hby at_122) rfl (i2d_w _) k) ?_
        refine own_dstore X19 hx hZ B19 (by decide) (by show 3 < 4; decide) (hb hby at_123) ga_b16 (Or.inr q16) ?_
        intro T20 h20 X20 K20 B20
        replace B20 : own_DA Z h20 b16 [(FP.l2d (p1).toInt64), (FP.l2d (p2).toInt64), (FP.l2d (p3).toInt64), (FP.l2d (p4).toInt64)] := B20
        have Zn20 : n0 ≤ h20.size := Nat.le_trans Zn19 K20.1
        refine own_st (f' := (mkF m 126 #[.val (.int p0), .val (.int p1), .val (.int p2), .val (.int p3), .val (.int p4), .val (.int (4 : Int32)), .val (.ref b16), .unset, .unset, .unset, .unset] [])) (fun t k => XS.astore X20.her hx rfl (hb hby at_124) rfl rfl (l' := #[.val (.int p0), .val (.int p1), .val (.int p2), .val (.int p3), .val (.int p4), .val (.int (4 : Int32)), .val (.ref b16), .unset, .unset, .unset, .unset]) rfl k) ?_
        refine own_st (f' := (mkF m 127 #[.val (.int p0), .val (.int p1), .val (.int p2), .val (.int p3), .val (.int p4), .val (.int (4 : Int32)), .val (.ref b16), .unset, .unset, .unset, .unset] [(.int p1)])) (fun t k => XS.iloadN X20.her hx rfl (hb hby at_126) rfl k) ?_
        refine own_st (f' := (mkF m 128 #[.val (.int p0), .val (.int p1), .val (.int p2), .val (.int p3), .val (.int p4), .val (.int (4 : Int32)), .val (.ref b16), .unset, .unset, .unset, .unset] [(.long (p1.toInt64))])) (fun t k => XS.i2l X20.her hx rfl (hb hby at_127) rfl k) ?_
        refine own_st (f' := (mkF m 129 #[.val (.int p0), .val (.int p1), .val (.int p2), .val (.int p3), .val (.int p4), .val (.int (4 : Int32)), .val (.ref b16), .unset, .unset, .unset, .unset] [(.int p2), (.long (p1.toInt64))])) (fun t k => XS.iloadN X20.her hx rfl (hb hby at_128) rfl k) ?_
        refine own_st (f' := (mkF m 130 #[.val (.int p0), .val (.int p1), .val (.int p2), .val (.int p3), .val (.int p4), .val (.int (4 : Int32)), .val (.ref b16), .unset, .unset, .unset, .unset] [(.long (p2.toInt64)), (.long (p1.toInt64))])) (fun t k => XS.i2l X20.her hx rfl (hb hby at_129) rfl k) ?_
        refine own_st (f' := (mkF m 131 #[.val (.int p0), .val (.int p1), .val (.int p2), .val (.int p3), .val (.int p4), .val (.int (4 : Int32)), .val (.ref b16), .unset, .unset, .unset, .unset] [(.long ((p1.toInt64) + (p2.toInt64)))])) (fun t k => XS.ladd X20.her hx rfl (hb hby at_130) rfl k) ?_
        refine own_st (f' := (mkF m 132 #[.val (.int p0), .val (.int p1), .val (.int p2), .val (.int p3), .val (.int p4), .val (.int (4 : Int32)), .val (.ref b16), .unset, .unset, .unset, .unset] [(.int p3), (.long ((p1.toInt64) + (p2.toInt64)))])) (fun t k => XS.iloadN X20.her hx rfl (hb hby at_131) rfl k) ?_
        refine own_st (f' := (mkF m 133 #[.val (.int p0), .val (.int p1), .val (.int p2), .val (.int p3), .val (.int p4), .val (.int (4 : Int32)), .val (.ref b16), .unset, .unset, .unset, .unset] [(.long (p3.toInt64)), (.long ((p1.toInt64) + (p2.toInt64)))])) (fun t k => XS.i2l X20.her hx rfl (hb hby at_132) rfl k) ?_
        refine own_st (f' := (mkF m 134 #[.val (.int p0), .val (.int p1), .val (.int p2), .val (.int p3), .val (.int p4), .val (.int (4 : Int32)), .val (.ref b16), .unset, .unset, .unset, .unset] [(.long (((p1.toInt64) + (p2.toInt64)) + (p3.toInt64)))])) (fun t k => XS.ladd X20.her hx rfl (hb hby at_133) rfl k) ?_
        refine own_st (f' := (mkF m 136 #[.val (.int p0), .val (.int p1), .val (.int p2), .val (.int p3), .val (.int p4), .val (.int (4 : Int32)), .val (.ref b16), .unset, .unset, .unset, .unset] [(.int p4), (.long (((p1.toInt64) + (p2.toInt64)) + (p3.toInt64)))])) (fun t k => XS.iload X20.her hx rfl (hb hby at_134) rfl k) ?_
        refine own_st (f' := (mkF m 137 #[.val (.int p0), .val (.int p1), .val (.int p2), .val (.int p3), .val (.int p4), .val (.int (4 : Int32)), .val (.ref b16), .unset, .unset, .unset, .unset] [(.long (p4.toInt64)), (.long (((p1.toInt64) + (p2.toInt64)) + (p3.toInt64)))])) (fun t k => XS.i2l X20.her hx rfl (hb hby at_136) rfl k) ?_
        refine own_st (f' := (mkF m 138 #[.val (.int p0), .val (.int p1), .val (.int p2), .val (.int p3), .val (.int p4), .val (.int (4 : Int32)), .val (.ref b16), .unset, .unset, .unset, .unset] [(.long ((((p1.toInt64) + (p2.toInt64)) + (p3.toInt64)) + (p4.toInt64)))])) (fun t k => XS.ladd X20.her hx rfl (hb hby at_137) rfl k) ?_
        refine own_st (f' := (mkF m 140 #[.val (.int p0), .val (.int p1), .val (.int p2), .val (.int p3), .val (.int p4), .val (.int (4 : Int32)), .val (.ref b16), .val (.long ((((p1.toInt64) + (p2.toInt64)) + (p3.toInt64)) + (p4.toInt64))), .second, .unset, .unset] [])) (fun t k => XS.lstore X20.her hx rfl (hb hby at_138) rfl (l' := #[.val (.int p0), .val (.int p1), .val (.int p2), .val (.int p3), .val (.int p4), .val (.int (4 : Int32)), .val (.ref b16), .val (.long ((((p1.toInt64) + (p2.toInt64)) + (p3.toInt64)) + (p4.toInt64))), .second, .unset, .unset]) rfl k) ?_
        refine own_st (f' := (mkF m 142 #[.val (.int p0), .val (.int p1), .val (.int p2), .val (.int p3), .val (.int p4), .val (.int (4 : Int32)), .val (.ref b16), .val (.long ((((p1.toInt64) + (p2.toInt64)) + (p3.toInt64)) + (p4.toInt64))), .second, .unset, .unset] [(.long ((((p1.toInt64) + (p2.toInt64)) + (p3.toInt64)) + (p4.toInt64)))])) (fun t k => XS.lload X20.her hx rfl (hb hby at_140) rfl k) ?_
        refine own_st (f' := (mkF m 143 #[.val (.int p0), .val (.int p1), .val (.int p2), .val (.int p3), .val (.int p4), .val (.int (4 : Int32)), .val (.ref b16), .val (.long ((((p1.toInt64) + (p2.toInt64)) + (p3.toInt64)) + (p4.toInt64))), .second, .unset, .unset] [(.double (FP.l2d ((((p1.toInt64) + (p2.toInt64)) + (p3.toInt64)) + (p4.toInt64))))])) (fun t k => XS.l2dS X20.her hx rfl (hb hby at_142) rfl rfl k) ?_
        refine own_st (f' := (mkF m 145 #[.val (.int p0), .val (.int p1), .val (.int p2), .val (.int p3), .val (.int p4), .val (.int (4 : Int32)), .val (.ref b16), .val (.long ((((p1.toInt64) + (p2.toInt64)) + (p3.toInt64)) + (p4.toInt64))), .second, .unset, .unset] [(.int (4 : Int32)), (.double (FP.l2d ((((p1.toInt64) + (p2.toInt64)) + (p3.toInt64)) + (p4.toInt64))))])) (fun t k => XS.iload X20.her hx rfl (hb hby at_143) rfl k) ?_
        refine own_st (f' := (mkF m 146 #[.val (.int p0), .val (.int p1), .val (.int p2), .val (.int p3), .val (.int p4), .val (.int (4 : Int32)), .val (.ref b16), .val (.long ((((p1.toInt64) + (p2.toInt64)) + (p3.toInt64)) + (p4.toInt64))), .second, .unset, .unset] [(.double (FP.l2d ((4 : Int32)).toInt64)), (.double (FP.l2d ((((p1.toInt64) + (p2.toInt64)) + (p3.toInt64)) + (p4.toInt64))))])) (fun t k => XS.i2dS X20.her hx rfl (hb hby at_145) rfl (i2d_w _) k) ?_
        refine own_st (f' := (mkF m 147 #[.val (.int p0), .val (.int p1), .val (.int p2), .val (.int p3), .val (.int p4), .val (.int (4 : Int32)), .val (.ref b16), .val (.long ((((p1.toInt64) + (p2.toInt64)) + (p3.toInt64)) + (p4.toInt64))), .second, .unset, .unset] [(.double (FP.ddiv (FP.l2d ((((p1.toInt64) + (p2.toInt64)) + (p3.toInt64)) + (p4.toInt64))) (FP.l2d ((4 : Int32)).toInt64)))])) (fun t k => XS.ddivS X20.her hx rfl (hb hby at_146) rfl (own_ndiv _ (by unfold Nz64; decide +kernel)) rfl k) ?_
        refine own_st (f' := (mkF m 149 #[.val (.int p0), .val (.int p1), .val (.int p2), .val (.int p3), .val (.int p4), .val (.int (4 : Int32)), .val (.ref b16), .val (.long ((((p1.toInt64) + (p2.toInt64)) + (p3.toInt64)) + (p4.toInt64))), .second, .val (.double (FP.ddiv (FP.l2d ((((p1.toInt64) + (p2.toInt64)) + (p3.toInt64)) + (p4.toInt64))) (FP.l2d ((4 : Int32)).toInt64))), .second] [])) (fun t k => XS.dstore X20.her hx rfl (hb hby at_147) rfl (l' := #[.val (.int p0), .val (.int p1), .val (.int p2), .val (.int p3), .val (.int p4), .val (.int (4 : Int32)), .val (.ref b16), .val (.long ((((p1.toInt64) + (p2.toInt64)) + (p3.toInt64)) + (p4.toInt64))), .second, .val (.double (FP.ddiv (FP.l2d ((((p1.toInt64) + (p2.toInt64)) + (p3.toInt64)) + (p4.toInt64))) (FP.l2d ((4 : Int32)).toInt64))), .second]) rfl k) ?_
        refine own_st (f' := (mkF m 151 #[.val (.int p0), .val (.int p1), .val (.int p2), .val (.int p3), .val (.int p4), .val (.int (4 : Int32)), .val (.ref b16), .val (.long ((((p1.toInt64) + (p2.toInt64)) + (p3.toInt64)) + (p4.toInt64))), .second, .val (.double (FP.ddiv (FP.l2d ((((p1.toInt64) + (p2.toInt64)) + (p3.toInt64)) + (p4.toInt64))) (FP.l2d ((4 : Int32)).toInt64))), .second] [(.ref b16)])) (fun t k => XS.aload X20.her hx rfl (hb hby at_149) rfl rfl k) ?_
        refine own_callSP (y := (⟨"com/example/bidwright/bidwright/tournament/Samples", "mean", "([D)D"⟩ : MethodName)) (W := 0) [(.ref b16)] X20 hx hZ hown (own_w1 hw) (own_w2 hw) (own_w3 hw) (own_w4 hw) (by decide) (own_m4 l Z a0 hw h20 n0 Zn20 b16 p1 p2 p3 p4 B20) (by decide) (by decide) (by decide) (by decide) (by rw [hml]; rfl) own_pd0 rfl rfl (Nat.le_of_eq rfl) (hb hby at_151) ?_
        intro T21 X21
        show own_G p e below _ T21 (mkF m 154 #[.val (.int p0), .val (.int p1), .val (.int p2), .val (.int p3), .val (.int p4), .val (.int (4 : Int32)), .val (.ref b16), .val (.long ((((p1.toInt64) + (p2.toInt64)) + (p3.toInt64)) + (p4.toInt64))), .second, .val (.double (FP.ddiv (FP.l2d ((((p1.toInt64) + (p2.toInt64)) + (p3.toInt64)) + (p4.toInt64))) (FP.l2d ((4 : Int32)).toInt64))), .second] [(.double (FP.ddiv (FP.l2d (((((0 : Int64) + (p1).toInt64) + (p2).toInt64) + (p3).toInt64) + (p4).toInt64)) (FP.l2d (4 : Int32).toInt64)))])
        refine own_st (f' := (mkF m 156 #[.val (.int p0), .val (.int p1), .val (.int p2), .val (.int p3), .val (.int p4), .val (.int (4 : Int32)), .val (.ref b16), .val (.long ((((p1.toInt64) + (p2.toInt64)) + (p3.toInt64)) + (p4.toInt64))), .second, .val (.double (FP.ddiv (FP.l2d ((((p1.toInt64) + (p2.toInt64)) + (p3.toInt64)) + (p4.toInt64))) (FP.l2d ((4 : Int32)).toInt64))), .second] [(.double (FP.ddiv (FP.l2d ((((p1.toInt64) + (p2.toInt64)) + (p3.toInt64)) + (p4.toInt64))) (FP.l2d ((4 : Int32)).toInt64))), (.double (FP.ddiv (FP.l2d (((((0 : Int64) + (p1).toInt64) + (p2).toInt64) + (p3).toInt64) + (p4).toInt64)) (FP.l2d (4 : Int32).toInt64)))])) (fun t k => XS.dload X21.her hx rfl (hb hby at_154) rfl k) ?_
        refine own_st (f' := (mkF m 157 #[.val (.int p0), .val (.int p1), .val (.int p2), .val (.int p3), .val (.int p4), .val (.int (4 : Int32)), .val (.ref b16), .val (.long ((((p1.toInt64) + (p2.toInt64)) + (p3.toInt64)) + (p4.toInt64))), .second, .val (.double (FP.ddiv (FP.l2d ((((p1.toInt64) + (p2.toInt64)) + (p3.toInt64)) + (p4.toInt64))) (FP.l2d ((4 : Int32)).toInt64))), .second] [(.int (cmpValue (FP.dcmp (FP.ddiv (FP.l2d (((((0 : Int64) + (p1).toInt64) + (p2).toInt64) + (p3).toInt64) + (p4).toInt64)) (FP.l2d (4 : Int32).toInt64)) (FP.ddiv (FP.l2d ((((p1.toInt64) + (p2.toInt64)) + (p3.toInt64)) + (p4.toInt64))) (FP.l2d ((4 : Int32)).toInt64))) .l))])) (fun t k => XS.dcmpS X21.her hx rfl (hb hby at_156) rfl rfl k) ?_
        refine own_st (f' := (mkF m 160 #[.val (.int p0), .val (.int p1), .val (.int p2), .val (.int p3), .val (.int p4), .val (.int (4 : Int32)), .val (.ref b16), .val (.long ((((p1.toInt64) + (p2.toInt64)) + (p3.toInt64)) + (p4.toInt64))), .second, .val (.double (FP.ddiv (FP.l2d ((((p1.toInt64) + (p2.toInt64)) + (p3.toInt64)) + (p4.toInt64))) (FP.l2d ((4 : Int32)).toInt64))), .second] [])) (fun t k => XS.ifNo X21.her hx rfl (hb hby at_157) rfl ((if0 _ _).trans (teq (own_cmp (by simp only [Int64.zero_add]) (own_ndiv _ (by unfold Nz64; decide +kernel)) : (cmpValue (FP.dcmp (FP.ddiv (FP.l2d (((((0 : Int64) + (p1).toInt64) + (p2).toInt64) + (p3).toInt64) + (p4).toInt64)) (FP.l2d (4 : Int32).toInt64)) (FP.ddiv (FP.l2d ((((p1.toInt64) + (p2.toInt64)) + (p3.toInt64)) + (p4.toInt64))) (FP.l2d ((4 : Int32)).toInt64))) .l) = (0 : Int32))).2) k) ?_
        refine own_st (f' := (mkF m 161 #[.val (.int p0), .val (.int p1), .val (.int p2), .val (.int p3), .val (.int p4), .val (.int (4 : Int32)), .val (.ref b16), .val (.long ((((p1.toInt64) + (p2.toInt64)) + (p3.toInt64)) + (p4.toInt64))), .second, .val (.double (FP.ddiv (FP.l2d ((((p1.toInt64) + (p2.toInt64)) + (p3.toInt64)) + (p4.toInt64))) (FP.l2d ((4 : Int32)).toInt64))), .second] [(.int (1 : Int32))])) (fun t k => XS.iconst X21.her hx rfl (hb hby at_160) k) ?_
        refine own_st (f' := (mkF m 165 #[.val (.int p0), .val (.int p1), .val (.int p2), .val (.int p3), .val (.int p4), .val (.int (4 : Int32)), .val (.ref b16), .val (.long ((((p1.toInt64) + (p2.toInt64)) + (p3.toInt64)) + (p4.toInt64))), .second, .val (.double (FP.ddiv (FP.l2d ((((p1.toInt64) + (p2.toInt64)) + (p3.toInt64)) + (p4.toInt64))) (FP.l2d ((4 : Int32)).toInt64))), .second] [(.int (1 : Int32))])) (fun t k => XS.goto X21.her hx rfl (pc0 := 161) (pc' := 165) rfl (hb hby at_161) (by decide) (by decide) k) ?_
        refine own_retN (t := .boolean) X21 hx hret hlk (by simp) (hb hby at_165) (by first | decide | omega) (by first | decide | omega) ?_
        exact congrArg (fun q => some (Value.int q)) (by decide)
set_option maxRecDepth 65536 in
set_option maxHeartbeats 40000000 in
theorem own_comes {Post : Tables → Env → Array Value → State → Outcome → State → Prop} (hpost : ∀ tb e args s v u, (limb_1_1.after args s (.returned v) u = true ∧ limb_1_2.after args s (.returned v) u = true) → FrameEnd s (.returned v) u (Jvm.fieldLocs frame_1_writes args s ++ Jvm.arrayLocs frame_1_arrays args s ++ Jvm.staticLocs frame_1_statics s) 16 128 → Post tb e args s (.returned v) u) :
    ArmFor flags0 classFile x code maxLocals ret World_1 tables_1 room_1 Calls_1 rest_1 Pre_1 Post := by
  intro l hfl _ _ p e ha hc hk s m args below hf hA hF happ hP
  obtain ⟨hcalls, hrest, hpre⟩ := hP
  obtain ⟨-, -, -, hnamed, -, -, -, hat⟩ := (Spec.applies_iff hf).mp happ
  obtain ⟨hg, hn⟩ := and_e (Cond.before_iff.mp (show (Jvm.Cond.and given_1 narrow_1).before args s = true from hpre))
  obtain ⟨g22, g23⟩ := and_e hg
  obtain ⟨g24, g25⟩ := and_e g23
  obtain ⟨g26, g27⟩ := and_e g25
  obtain ⟨g28, g29⟩ := and_e g27
  obtain ⟨g30, g31⟩ := and_e g29
  obtain ⟨w0, w1, w2, w3, w4, rfl⟩ : ∃ w0 w1 w2 w3 w4 : Value, args = #[w0, w1, w2, w3, w4] := by
    have hs : args.size = 5 := by simpa [Cond.value, given_1] using g22
    obtain ⟨L⟩ := args
    match L, hs with
    | [w0, w1, w2, w3, w4], _ => exact ⟨w0, w1, w2, w3, w4, rfl⟩
  have hw := fun d (hd : d ∈ tables_1) => atoms_spec (ws := Jvm.Cond.code x code maxLocals ret :: tables_1) hat d (List.mem_cons_of_mem _ hd)
  obtain ⟨i0, ei0⟩ := is_v g24
  obtain rfl : w0 = (.int i0) := Option.some.inj ei0
  obtain ⟨i1, ei1⟩ := is_v g26
  obtain rfl : w1 = (.int i1) := Option.some.inj ei1
  obtain ⟨i2, ei2⟩ := is_v g28
  obtain rfl : w2 = (.int i2) := Option.some.inj ei2
  obtain ⟨i3, ei3⟩ := is_v g30
  obtain rfl : w3 = (.int i3) := Option.some.inj ei3
  obtain ⟨i4, ei4⟩ := is_v g31
  obtain rfl : w4 = (.int i4) := Option.some.inj ei4
  obtain ⟨n, o, h1, h2, h3, v, L, rfl, ⟨N, -, hv⟩, hq⟩ := own_c0 l s _ hw s.heap s.heap.size (Nat.le_refl _) i0 i1 i2 i3 i4 p e ha hc hk s m _ below hf ((Spec.applies_iff_loose hf).mp happ).1 ⟨rfl, State.Warmed39.refl s, rfl⟩ trivial
  obtain rfl : v = some (.int 1) := hv
  refine ⟨n, _, h1, h2, h3, hpost _ _ _ _ _ _ ⟨Cond.after_iff.mpr rfl, Cond.after_iff.mpr (eq_i res_at (Term.int_eval (1)) rfl)⟩ ⟨hq.1, hq.2.1, (hq.2.2.sift fun y hy => Or.inr (N y hy)).mono (by decide) (by decide)⟩⟩
theorem main_1_1 : Claimed_1_1 := own_comes fun _ _ _ _ _ _ h hF => ⟨h.1, hF⟩
theorem main_1_2 : Claimed_1_2 := own_comes fun _ _ _ _ _ _ h hF => ⟨h.2, hF⟩
end Jvm.Pilot.@@N@@
namespace Jvm.Pilot.@@N@@
open Jvm Jvm.ClassFile Sem Op Lib Jvm.Free Jvm.Stand Jvm.Pilot.@@N@@.Jvm.D
/-! MADE BY PROGRAM (witnessworld.py) out of the Statement's table words and the real class files: 9 classes; the members and pool entries that the words name. The judged class is class 1, her method 1. -/
namespace start1
open Jvm.ClassFile
def u (s : String) : CpInfo := .utf8 (stringToUtf16 s)
/-- a pool by its gaps: so many unusable entries, then the entry; so many at the end -/
def gap : Nat → List CpInfo → List CpInfo
  | 0, r => r
  | n + 1, r => .unusable :: gap n r
def poolList (es : List (Nat × CpInfo)) (last : Nat) : List CpInfo := es.foldr (fun e r => gap e.1 (e.2 :: r)) (gap last [])
def pool (es : List (Nat × CpInfo)) (last : Nat) : Array CpInfo := ⟨poolList es last⟩
def fileOf (pool : Array CpInfo) (this : Nat) (attrs : Array Attribute := #[]) (ms : Array MethodInfo := #[]) (fl : Nat := 33) (sup : Nat := 0) (ifs : Array Nat := #[]) (fds : Array FieldInfo := #[]) : ClassFile where
  minorVersion := 0
  majorVersion := 65
  constantPool := pool
  accessFlags := fl
  thisClass := this
  superClass := sup
  interfaces := ifs
  fields := fds
  methods := ms
  attributes := attrs
def plain (name : String) (sup : Option ClassId) : Class where
  name := name
  kind := .ordinary
  loader := none
  accessFlags := 33
  super := sup
  interfaces := #[]
  cf := none
  fields := #[]
  methods := #[]
  instanceTypes := #[]
  staticTypes := #[]
  resolved := #[]
  callSites := []
  init := .initialized
  statics := none
  mirror := none

def pool0 : Array CpInfo := pool [(5, u "<init>"), (0, u "()V"), (1, .class_ 10), (1, u "java/lang/Object")] 113

def k0m0 : Method := { name := "<init>", desc := "()V", sig := { parameters := [], returnType := none }, accessFlags := 1, code := none }
/-- java/lang/Object -/
def k0 : Class := { plain "java/lang/Object" none with
  accessFlags := 33
  interfaces := #[]
  cf := some (fileOf pool0 8 #[] #[{ accessFlags := 1, nameIndex := 5, descriptorIndex := 6, attributes := #[] }] 33 0 #[] #[])
  fields := #[]
  methods := #[k0m0]
  instanceTypes := #[]
  staticTypes := #[]
  resolved := Array.replicate 124 none
  statics := none }

def pool1 : Array CpInfo := pool [(2, .class_ 4), (1, u "java/lang/Object"), (0, u "<init>"), (0, u "()V"), (0, .methodref 8 9), (0, .class_ 10), (0, .nameAndType 11 12), (0, u "com/example/bidwright/bidwright/tournament/Samples"), (0, u "mean"), (0, u "([D)D"), (0, .class_ 14), (0, u "com/example/bidwright/bidwright/tournament/SamplesMeanPinLaw"), (2, u "law"), (0, u "(IIIII)Z")] 5

def k1m0 : Method := { name := "<init>", desc := "()V", sig := { parameters := [], returnType := none }, accessFlags := 2, code := none }
def k1c1 : Code := { maxStack := 5, maxLocals := 11, code := code, exceptionTable := #[], attributes := #[] }
def k1m1 : Method := { name := "law", desc := "(IIIII)Z", sig := { parameters := [.int, .int, .int, .int, .int], returnType := some .boolean }, accessFlags := 9, code := some k1c1 }
/-- com/example/bidwright/bidwright/tournament/SamplesMeanPinLaw -/
def k1 : Class := { plain "com/example/bidwright/bidwright/tournament/SamplesMeanPinLaw" (some 0) with
  accessFlags := 49
  interfaces := #[]
  cf := some (fileOf pool1 13 #[] #[{ accessFlags := 2, nameIndex := 5, descriptorIndex := 6, attributes := #[] }, { accessFlags := 9, nameIndex := 17, descriptorIndex := 18, attributes := #[] }] 49 2 #[] #[])
  fields := #[]
  methods := #[k1m0, k1m1]
  instanceTypes := #[]
  staticTypes := #[]
  resolved := Array.replicate 24 none
  statics := none }

def pool2 : Array CpInfo := pool [(2, .class_ 4), (1, u "java/lang/Object"), (0, u "<init>"), (0, u "()V"), (6, .class_ 14), (0, u "com/example/bidwright/bidwright/tournament/Samples"), (2, u "mean"), (0, u "([D)D")] 7

def k2m0 : Method := { name := "<init>", desc := "()V", sig := { parameters := [], returnType := none }, accessFlags := 2, code := none }
def k2c1 : Code := { maxStack := 4, maxLocals := 8, code := prog_123_method_2_code, exceptionTable := #[], attributes := #[] }
def k2m1 : Method := { name := "mean", desc := "([D)D", sig := { parameters := [(.array .double)], returnType := some .double }, accessFlags := 8, code := some k2c1 }
/-- com/example/bidwright/bidwright/tournament/Samples -/
def k2 : Class := { plain "com/example/bidwright/bidwright/tournament/Samples" (some 0) with
  accessFlags := 48
  interfaces := #[]
  cf := some (fileOf pool2 13 #[] #[{ accessFlags := 2, nameIndex := 5, descriptorIndex := 6, attributes := #[] }, { accessFlags := 8, nameIndex := 17, descriptorIndex := 18, attributes := #[] }] 48 2 #[] #[])
  fields := #[]
  methods := #[k2m0, k2m1]
  instanceTypes := #[]
  staticTypes := #[]
  resolved := Array.replicate 26 none
  statics := none }

def pool3 : Array CpInfo := pool [(1, u "java/lang/Cloneable"), (0, .class_ 1), (0, u "java/lang/Object"), (0, .class_ 3)] 3

/-- java/lang/Cloneable -/
def k3 : Class := { plain "java/lang/Cloneable" (some 0) with
  accessFlags := 1537
  interfaces := #[]
  cf := some (fileOf pool3 2 #[] #[] 1537 4 #[] #[])
  fields := #[]
  methods := #[]
  instanceTypes := #[]
  staticTypes := #[]
  resolved := Array.replicate 8 none
  statics := none }

def pool4 : Array CpInfo := pool [(1, u "java/io/Serializable"), (0, .class_ 1), (0, u "java/lang/Object"), (0, .class_ 3)] 3

/-- java/io/Serializable -/
def k4 : Class := { plain "java/io/Serializable" (some 0) with
  accessFlags := 1537
  interfaces := #[]
  cf := some (fileOf pool4 2 #[] #[] 1537 4 #[] #[])
  fields := #[]
  methods := #[]
  instanceTypes := #[]
  staticTypes := #[]
  resolved := Array.replicate 8 none
  statics := none }

/-- the primitive byte -/
def k5 : Class := { plain "byte" none with kind := .primitive 'B', accessFlags := 0x411 }
/-- [B -/
def k6 : Class := { plain "[B" (some 0) with kind := .array 5 .byte, interfaces := #[3, 4], accessFlags := 1041 }

/-- the primitive int -/
def k7 : Class := { plain "int" none with kind := .primitive 'I', accessFlags := 0x411 }
/-- [I -/
def k8 : Class := { plain "[I" (some 0) with kind := .array 7 .int, interfaces := #[3, 4], accessFlags := 1041 }

/-- the primitive double, and its arrays -/
def k9 : Class := { plain "double" none with kind := .primitive 'D', accessFlags := 0x411 }
def k10 : Class := { plain "[D" (some 0) with kind := .array 9 .double, interfaces := #[3, 4], accessFlags := 1041 }
def heap : Heap := #[]
def classes : Array Class := #[k0, k1, k2, k3, k4, k5, k6, k7, k8, k9, k10]
def interned : List (Array UInt16 × Addr) := []
def slotsUsed : Nat := 0
def theMethod : MethodId := ⟨1, 1⟩
def args0 : Array Value := #[.int 7, .int 3, .int 5, .int 1, .int 2]
def aboutOver (below : List Frame) : State where
  vm := { classes := classes, interned := interned.toArray }
  heap := heap
  slotsUsed := slotsUsed
  threads := #[{ frames := .invoking theMethod args0 :: below }]
def below0 : List Frame := [.native { method := ⟨0, 0⟩, args := #[] }]
def about1 : State := aboutOver below0
def p0 : Program := .bare "" "" ""
def e0 : Env := launch0.env 0 0 0
theorem w_frames : about1.frames = Frame.invoking theMethod args0 :: below0 := rfl
set_option maxRecDepth 65536 in
theorem w_args : argsFit about1.vm theMethod args0 = true := by decide +kernel
set_option maxRecDepth 65536 in
theorem w_heap : heapFits about1 = true := by decide +kernel
set_option maxRecDepth 65536 in
theorem w_runnable : about1.curStatus? = some .runnable := by decide +kernel
set_option maxRecDepth 65536 in
theorem w_alone : about1.alone = true := by decide +kernel
set_option maxRecDepth 65536 in
theorem w_named : about1.methodNamed? x = some theMethod := by decide +kernel
set_option maxRecDepth 65536 in
theorem w_hears : about1.hears theMethod below0 = true := by decide +kernel
set_option maxRecDepth 65536 in
theorem w_ripe : about1.ripe theMethod args0 below0 = true := by decide +kernel
theorem w_running : about1.status = .running := rfl
set_option maxRecDepth 65536 in
theorem w_room : about1.hasRoom e0.platform room_1 = true :=
  launch0.hasRoom_least _ room_1 (by decide +kernel) (by decide +kernel) (by decide +kernel) (by decide +kernel) (by decide +kernel) (by decide +kernel)
theorem allAtoms_all (ts : List Jvm.Cond) (a : Array Jvm.Value) (st : Jvm.State) : (allAtoms ts).before a st = ts.all (fun c => c.before a st) := by
  induction ts with
  | nil => rfl
  | cons c t ih =>
    show (Jvm.Cond.and c (allAtoms t)).before a st = _
    rw [Jvm.Cond.before_and, ih, List.all_cons]
def words1 : List Jvm.Cond := Jvm.Cond.code x code maxLocals ret :: tables_1
/-- a 'code' word, met by the world's own term for the bytes: nothing is compared byte by byte -/
theorem code_word {y : MethodName} {bytes : ByteArray} {mx : Nat} {rt : Option FieldType} {a : Array Value} {s : State} {m : MethodId} {meth : Method} {c : Code} (h1 : s.methodNamed? y = some m) (h2 : s.vm.method? m = some meth) (h3 : meth.code = some c) (h4 : c.code = bytes)
    (h5 : (c.maxLocals == mx && c.exceptionTable.isEmpty && decide (c.maxStack ≤ mostOperands) && decide (meth.sig.returnType = rt) && !meth.locks && decide (parseMethodDescriptor y.desc = some meth.sig)) = true) : (Jvm.Cond.code y bytes mx rt).before a s = true := by
  simp only [Bool.and_eq_true, beq_iff_eq, Bool.not_eq_true', decide_eq_true_eq] at h5
  obtain ⟨⟨⟨⟨⟨g1, g2⟩, g3⟩, g4⟩, g5⟩, g6⟩ := h5
  simp [Cond.before, Cond.holds, Cond.value, h1, h2, h3, h4, g1, g2, g3, g4, g5, g6]
def isCode : Jvm.Cond → Bool
  | .code _ _ _ _ => true
  | _ => false
theorem all_split {L : List Jvm.Cond} {P : Jvm.Cond → Bool} (h1 : L.all (fun c => isCode c || P c) = true) (h2 : ∀ c ∈ L.filter isCode, P c = true) : L.all P = true := by
  refine List.all_eq_true.mpr fun c hc => ?_
  have h := List.all_eq_true.mp h1 c hc
  rcases Bool.eq_false_or_eq_true (isCode c) with hi | hi
  · exact h2 c (List.mem_filter.mpr ⟨hc, hi⟩)
  · simpa [hi] using h
set_option maxRecDepth 65536 in
theorem w_c0 : (Jvm.Cond.code x code maxLocals ret).before args0 about1 = true := code_word (m := ⟨1, 1⟩) (meth := k1m1) (c := k1c1) (by decide +kernel) rfl rfl rfl (by decide +kernel)
set_option maxRecDepth 65536 in
theorem w_c1 : (Jvm.Cond.code ({ cls := "com/example/bidwright/bidwright/tournament/Samples", name := "mean", desc := "([D)D" } : Jvm.MethodName) prog_123_method_2_code (8 : Nat) (Option.some Jvm.ClassFile.FieldType.double)).before args0 about1 = true := code_word (m := ⟨2, 1⟩) (meth := k2m1) (c := k2c1) (by decide +kernel) rfl rfl rfl (by decide +kernel)
def codes1 : List Jvm.Cond := [Jvm.Cond.code x code maxLocals ret, Jvm.Cond.code ({ cls := "com/example/bidwright/bidwright/tournament/Samples", name := "mean", desc := "([D)D" } : Jvm.MethodName) prog_123_method_2_code (8 : Nat) (Option.some Jvm.ClassFile.FieldType.double)]
set_option maxRecDepth 65536 in
theorem codes_eq : words1.filter isCode = codes1 := rfl
theorem w_codes : ∀ c ∈ words1.filter isCode, c.before args0 about1 = true := by
  rw [codes_eq]
  intro c hc
  simp only [codes1, List.mem_cons, List.not_mem_nil, or_false] at hc
  rcases hc with rfl | rfl
  · exact w_c0
  · exact w_c1
set_option maxRecDepth 65536 in
theorem w_t1 : words1.all (fun c => isCode c || c.before args0 about1) = true := by decide +kernel
theorem w_tables : (allAtoms (Jvm.Cond.code x code maxLocals ret :: tables_1)).before args0 about1 = true := by
  rw [allAtoms_all]
  show words1.all (fun c => c.before args0 about1) = true
  refine all_split ?_ w_codes
  rw [w_t1]
set_option maxRecDepth 65536 in
theorem w_case : (Jvm.Cond.and given_1 narrow_1).before args0 about1 = true := by decide +kernel
theorem w_applies : (headSpec (Jvm.Cond.code x code maxLocals ret :: tables_1) room_1).applies x e0.platform about1 = true :=
  (Spec.applies_iff w_frames).mpr ⟨w_running, w_runnable, w_alone, w_named, w_hears, w_ripe, w_room, w_tables⟩
theorem atStart : AtStart classFile x code maxLocals ret World_1 tables_1 room_1 Calls_1 rest_1 Pre_1 launch0 p0 e0 about1 theMethod args0 below0 :=
  ⟨lists_1, trivial, launch0.admits_env _ _ _, launch0.least_env, fairChoices_fair.cas, fairChoices_fair.clock, w_frames, w_args, w_heap, w_applies, trivial, trivial, w_case⟩
end start1
theorem witness_1 : WitnessClaimed_1 := ⟨start1.p0, start1.e0, start1.about1, start1.theMethod, start1.args0, start1.below0, start1.atStart⟩
end Jvm.Pilot.@@N@@
