import JvmDerived
import JvmDerived.Pilot.@@N@@Statement
import JvmDerived.Pilot.@@N@@Code
set_option linter.unusedVariables false
set_option linter.unusedSimpArgs false
@@BLOCK:NumsL.lean.txt@@
namespace Jvm.Pilot.@@N@@
open Jvm Jvm.ClassFile Sem Op Lib Jvm.Free Jvm.Stand Jvm.LawKit Jvm.RoadKit Bundle Jvm.Pilot.@@N@@.Jvm.D
section Own
variable {p : Program} {l : Launch} {e : Env} {R : Room} {s : State} {m : MethodId} {args : Array Value} {below : List Frame} {meth : Method} {c : Code} {T T' : State} {locs : List Loc} {cells slots : Nat} {Z : State} {h h' h0 : Heap} {n0 : Nat} {ws : List Addr} {a0 : Array Value}
/-- what is still to be shown: from this frame the run ends as G says -/
def own_G (p : Program) (e : Env) (below : List Frame) (G : Outcome → State → Prop) (T : State) (f : JFrame) : Prop :=
  ∃ s₂ o, Steps p.tables e below (T.setTop f) s₂ ∧ s₂.status = .running ∧ Ended s₂ below o ∧ G o s₂
theorem own_st {G : Outcome → State → Prop} {f f' : JFrame} (q : ∀ t, Steps p.tables e below (T'.setTop f') t → Steps p.tables e below (T.setTop f) t) (k : own_G p e below G T' f') : own_G p e below G T f := by
  obtain ⟨a, o, r1, r2⟩ := k
  exact ⟨a, o, q a r1, r2⟩
theorem own_cast {G : Outcome → State → Prop} {f f' : JFrame} (q : f = f') (k : own_G p e below G T f') : own_G p e below G T f := q ▸ k
def own_D (s : State) (Q : Option Value → Heap → List Loc → Prop) (C S : Nat) (o : Outcome) (U : State) : Prop := ∃ v L, o = .returned v ∧ Q v U.heap L ∧ FrameEnd s o U L C S
def own_Q (n0 : Nat) (h0 : Heap) (ws : List Addr) (P : Option Value → Heap → Prop) (v : Option Value) (h : Heap) (L : List Loc) : Prop := Fr n0 L ∧ Keep h0 h ws ∧ P v h
def own_M (l : Launch) (y : MethodName) (code : ByteArray) (maxL : Nat) (ret : Option FieldType) (wd : List Jvm.Cond) (rm : Room) (Z : State) (as : Array Value) (h0 : Heap) (Q : Option Value → Heap → List Loc → Prop) : Prop :=
  MetFree l y (head1 (Jvm.Cond.code y code maxL ret :: wd) rm) (fun a U => a = as ∧ Z.Warmed39 U.vm ∧ U.heap = h0) (fun _ _ _ _ _ => True) (fun _ U o U' => ∃ v L, o = .returned v ∧ Q v U'.heap L ∧ FrameEnd U o U' L rm.cells rm.slots)
/-- where the walk stands: nothing old but ws was written -/
def own_S (p : Program) (l : Launch) (e : Env) (R : Room) (s : State) (m : MethodId) (args : Array Value) (below : List Frame) (meth : Method) (c : Code) (n0 : Nat) (h0 : Heap) (ws : List Addr) (T : State) (h : Heap) (cells slots : Nat) : Prop :=
  (∃ locs, Stand p l e R s m args below meth c T locs cells slots ∧ Fr n0 locs) ∧ T.heap = h ∧ Keep h0 h ws
theorem own_S.her (X : own_S p l e R s m args below meth c n0 h0 ws T h cells slots) : At T m c below := by
  obtain ⟨⟨_, X, _⟩, _⟩ := X; exact X.here
theorem own_body {y : MethodName} {code : ByteArray} {maxL : Nat} {ret : Option FieldType} {wd : List Jvm.Cond} {rm : Room} {as : Array Value} {P : Option Value → Heap → Prop} (hy : plainFor y = true)
    (B : ∀ (p : Program) (e : Env) (s : State) (m : MethodId) (below : List Frame) (meth : Method) (c : Code) (T : State), own_S p l e rm s m as below meth c n0 h0 ws T h0 0 0 → p.tables.exec = Jvm.exec → c.code = code → c.maxLocals = maxL → s.vm.findClass y.cls = some m.cls → meth.name = y.name → meth.sig.returnType = ret → meth.locks = false → Z.Warmed39 s.vm →
      own_G p e below (own_D s (own_Q n0 h0 ws P) rm.cells rm.slots) T (entryFrame m as maxL)) :
    own_M l y code maxL ret wd rm Z as h0 (own_Q n0 h0 ws P) := by
  refine MetFree.of_bodySF hy hisR ?_
  intro p e s m args below meth c s₁ Bd hml0 hP hK
  obtain ⟨rfl, hZ, hh⟩ := hP
  exact B p e s m below meth c s₁ ⟨⟨[], Stand.of_body Bd, Fr.nil n0⟩, by rw [← hh, Bd.state]; rfl, Keep.refl _ _⟩ Bd.exec Bd.bytes hml0 (findClass_of_methodNamed Bd.named) (name_of_methodNamed Bd.named Bd.method).1 Bd.returns Bd.notSynchronized hZ
section Leave
variable {P : Option Value → Heap → Prop} {pc : Nat} {Ls : Array Slot} {rest : List Value} {C S : Nat}
theorem own_retN {t : FieldType} {z : Int32} (X : own_S p l e R s m args below meth c n0 h0 ws T h cells slots) (hx : p.tables.exec = Jvm.exec) (hret : meth.sig.returnType = some t) (hlk : meth.locks = false) (ht : t = .boolean ∨ t = .byte ∨ t = .char ∨ t = .short) (hd : decode c.code pc = .ok (.ireturn, 1)) (hc : cells ≤ C) (hs : slots ≤ S) (hP : P (some (.int (nar t z))) h) :
    own_G p e below (own_D s (own_Q n0 h0 ws P) C S) T (mkF m pc Ls (.int z :: rest)) := by
  obtain ⟨⟨locs, X, N⟩, rfl, K⟩ := X
  obtain ⟨fs, hr, hrun, hended, hW, hsame⟩ := X.leave (v := some (.int (nar t z))) (fun h => by rw [hret] at h; cases h) hlk
  exact ⟨_, _, retN X hx hret ht hd hr, hrun, hended, _, _, rfl, ⟨N, K, hP⟩, ⟨_, rfl⟩, hW, hsame.mono hc hs⟩
theorem own_retI {z : Int32} (X : own_S p l e R s m args below meth c n0 h0 ws T h cells slots) (hx : p.tables.exec = Jvm.exec) (hret : meth.sig.returnType = some .int) (hlk : meth.locks = false) (hd : decode c.code pc = .ok (.ireturn, 1)) (hc : cells ≤ C) (hs : slots ≤ S) (hP : P (some (.int z)) h) :
    own_G p e below (own_D s (own_Q n0 h0 ws P) C S) T (mkF m pc Ls (.int z :: rest)) := by
  obtain ⟨⟨locs, X, N⟩, rfl, K⟩ := X
  obtain ⟨fs, hr, hrun, hended, hW, hsame⟩ := X.leave (v := some (.int z)) (fun h => by rw [hret] at h; cases h) hlk
  exact ⟨_, _, retOut X hx hret rfl (Or.inl ⟨rfl, Or.inl rfl, _, rfl⟩) hd hr, hrun, hended, _, _, rfl, ⟨N, K, hP⟩, ⟨_, rfl⟩, hW, hsame.mono hc hs⟩
theorem own_retL {z : Int64} (X : own_S p l e R s m args below meth c n0 h0 ws T h cells slots) (hx : p.tables.exec = Jvm.exec) (hret : meth.sig.returnType = some .long) (hlk : meth.locks = false) (hd : decode c.code pc = .ok (.lreturn, 1)) (hc : cells ≤ C) (hs : slots ≤ S) (hP : P (some (.long z)) h) :
    own_G p e below (own_D s (own_Q n0 h0 ws P) C S) T (mkF m pc Ls (.long z :: rest)) := by
  obtain ⟨⟨locs, X, N⟩, rfl, K⟩ := X
  obtain ⟨fs, hr, hrun, hended, hW, hsame⟩ := X.leave (v := some (.long z)) (fun h => by rw [hret] at h; cases h) hlk
  exact ⟨_, _, retOut X hx hret rfl (Or.inr (Or.inl ⟨rfl, rfl, _, rfl⟩)) hd hr, hrun, hended, _, _, rfl, ⟨N, K, hP⟩, ⟨_, rfl⟩, hW, hsame.mono hc hs⟩
theorem own_retA {t : FieldType} {z : Addr} (X : own_S p l e R s m args below meth c n0 h0 ws T h cells slots) (hx : p.tables.exec = Jvm.exec) (hret : meth.sig.returnType = some t) (hlk : meth.locks = false) (ht : t.isReference = true) (hn : narrow t (.ref z) = .ref z) (hd : decode c.code pc = .ok (.areturn, 1)) (hc : cells ≤ C) (hs : slots ≤ S) (hP : P (some (.ref z)) h) :
    own_G p e below (own_D s (own_Q n0 h0 ws P) C S) T (mkF m pc Ls (.ref z :: rest)) := by
  obtain ⟨⟨locs, X, N⟩, rfl, K⟩ := X
  obtain ⟨fs, hr, hrun, hended, hW, hsame⟩ := X.leave (v := some (.ref z)) (fun h => by rw [hret] at h; cases h) hlk
  exact ⟨_, _, retOut X hx hret hn (Or.inr (Or.inr (Or.inr (Or.inr ⟨rfl, ht, rfl⟩)))) hd hr, hrun, hended, _, _, rfl, ⟨N, K, hP⟩, ⟨_, rfl⟩, hW, hsame.mono hc hs⟩
theorem own_ret0 (X : own_S p l e R s m args below meth c n0 h0 ws T h cells slots) (hx : p.tables.exec = Jvm.exec) (hret : meth.sig.returnType = none) (hlk : meth.locks = false) (hd : decode c.code pc = .ok (.return_, 1)) (hc : cells ≤ C) (hs : slots ≤ S) (hP : P none h) :
    own_G p e below (own_D s (own_Q n0 h0 ws P) C S) T (mkF m pc Ls []) := by
  obtain ⟨⟨locs, X, N⟩, rfl, K⟩ := X
  obtain ⟨fs, hr, hrun, hended, hW, hsame⟩ := X.leave (v := none) (fun _ => rfl) hlk
  exact ⟨_, _, X.returnOut hx hret hd hr, hrun, hended, _, _, rfl, ⟨N, K, hP⟩, ⟨_, rfl⟩, hW, hsame.mono hc hs⟩
end Leave
section Calls
variable {y : MethodName} {bytes : ByteArray} {maxL : Nat} {ret : Option FieldType} {rm : Room} {W : Nat} {own : String} {index : Nat} {P : Option Value → Heap → Prop} {wsc : List Addr} {G : Outcome → State → Prop} {pc : Nat} {Ls : Array Slot} {rest stk : List Value} {ps : List FieldType} {r : Option FieldType}
theorem own_callS (as : List Value) (X : own_S p l e R s m args below meth c n0 h0 ws T h cells slots) (hx : p.tables.exec = Jvm.exec) (hZ : Z.Warmed39 s.vm) (hown : s.vm.findClass own = some m.cls)
    (w1 : (Jvm.Cond.methodLink own index y).before a0 Z = true) (w2 : (Jvm.Cond.static y).before a0 Z = true) (w3 : (Jvm.Cond.initialized y.cls).before a0 Z = true) (w4 : (Jvm.Cond.code y bytes maxL ret).before a0 Z = true) (hy : y.cls ≠ "java/lang/invoke/MethodHandle" ∧ y.cls ≠ "java/lang/invoke/VarHandle")
    (M : own_M l y bytes maxL ret [] rm Z as.toArray h (own_Q n0 h wsc P)) (q : ∀ x ∈ wsc, x ∈ ws ∨ h0.size ≤ x)
    (hf : rm.frames + 1 ≤ R.frames) (hl : W + (maxL + 11) + rm.locals ≤ R.locals) (hc : cells + rm.cells ≤ R.cells) (hs : slots + rm.slots ≤ R.slots) (hsize : Ls.size = c.maxLocals)
    (hlen : parseMethodDescriptor y.desc = some ⟨ps, r⟩) (hlen' : as.length = ps.length) (hstk : stk = as.reverse ++ rest) (hW : (rest.map fun v => v.category).sum ≤ W) (hd : decode c.code pc = .ok (.invokestatic index, 3))
    (k : ∀ v T' h', own_S p l e R s m args below meth c n0 h0 ws T' h' (cells + rm.cells) (slots + rm.slots) → Keep h h' wsc → P v h' → own_G p e below G T' (mkF m (pc + 3) Ls (v.toList ++ rest))) :
    own_G p e below G T (mkF m pc Ls stk) := by
  obtain ⟨⟨locs, X, N⟩, e0, K⟩ := X
  obtain ⟨v, vm₁, ⟨T', L', k', n'⟩, -, X', ⟨Lc, hQ, l', y', z'⟩, st⟩ := Jvm.LawKit.callS X hx (y := y) hown (mvT hZ w1) (mvT hZ w2) (mvT hZ w3) (mvT hZ w4) hy (backOf (W := W) M hZ w4 w3 hf hl) (g := mkF m pc Ls stk) rfl hsize (argsL := as) (rest := rest) (lenOf hlen hlen') hstk (by show 2 * 0 + _ ≤ _; rw [Nat.mul_zero, Nat.zero_add]; exact hW) hd (fun _ _ => ⟨rfl, e0, hc, hs⟩)
  dsimp only [Pt.U, Pt.locs, Pt.cells, Pt.slots] at X' l' y' z' st hQ
  subst l' y' z'
  obtain ⟨N', K', hP⟩ := hQ
  exact own_st st (k v T' _ ⟨⟨_, X', N.app N'⟩, rfl, K.trans K' q⟩ K' hP)
theorem own_callC (as : List Value) {a : Addr} (X : own_S p l e R s m args below meth c n0 h0 ws T h cells slots) (hx : p.tables.exec = Jvm.exec) (hZ : Z.Warmed39 s.vm) (hown : s.vm.findClass own = some m.cls) (hy1 : y.name = "<init>")
    (w1 : (Jvm.Cond.methodLink own index y).before a0 Z = true) (w2 : (Jvm.Cond.instanceMethod y).before a0 Z = true) (w3 : (Jvm.Cond.initialized y.cls).before a0 Z = true) (w4 : (Jvm.Cond.code y bytes maxL none).before a0 Z = true) (hy : y.cls ≠ "java/lang/invoke/MethodHandle" ∧ y.cls ≠ "java/lang/invoke/VarHandle")
    (M : own_M l y bytes maxL none [] rm Z (Value.ref a :: as).toArray h (own_Q n0 h wsc P)) (q : ∀ x ∈ wsc, x ∈ ws ∨ h0.size ≤ x)
    (hf : rm.frames + 1 ≤ R.frames) (hl : W + (maxL + 11) + rm.locals ≤ R.locals) (hc : cells + rm.cells ≤ R.cells) (hs : slots + rm.slots ≤ R.slots) (hsize : Ls.size = c.maxLocals)
    (hlen : parseMethodDescriptor y.desc = some ⟨ps, r⟩) (hlen' : as.length = ps.length) (hstk : stk = as.reverse ++ .ref a :: rest) (hW : (rest.map fun v => v.category).sum ≤ W) (hd : decode c.code pc = .ok (.invokespecial index, 3))
    (k : ∀ v T' h', own_S p l e R s m args below meth c n0 h0 ws T' h' (cells + rm.cells) (slots + rm.slots) → Keep h h' wsc → P v h' → own_G p e below G T' (mkF m (pc + 3) Ls (v.toList ++ rest))) :
    own_G p e below G T (mkF m pc Ls stk) := by
  obtain ⟨⟨locs, X, N⟩, e0, K⟩ := X
  obtain ⟨v, vm₁, ⟨T', L', k', n'⟩, -, X', ⟨Lc, hQ, l', y', z'⟩, st⟩ := X.specialBack hx (y := y) hy1 hown (mvT hZ w1) (mvT hZ w2) (mvT hZ w4) hy (backOf (W := W) M hZ w4 w3 hf hl) (g := mkF m pc Ls stk) rfl hsize (Steps.refl _) (a := a) (argsL := as) (rest := rest) (lenOf hlen hlen') hstk (by show 2 * 0 + _ ≤ _; rw [Nat.mul_zero, Nat.zero_add]; exact hW) hd (fun _ _ => ⟨rfl, e0, hc, hs⟩)
  dsimp only [Pt.U, Pt.locs, Pt.cells, Pt.slots] at X' l' y' z' st hQ
  subst l' y' z'
  obtain ⟨N', K', hP⟩ := hQ
  exact own_st (fun t => st.trans) (k v T' _ ⟨⟨_, X', N.app N'⟩, rfl, K.trans K' q⟩ K' hP)
theorem own_callV (as : List Value) {a : Addr} (X : own_S p l e R s m args below meth c n0 h0 ws T h cells slots) (hx : p.tables.exec = Jvm.exec) (hZ : Z.Warmed39 s.vm) (hown : s.vm.findClass own = some m.cls)
    (w1 : (Jvm.Cond.methodLink own index y).before a0 Z = true) (w2 : (Jvm.Cond.declares y).before a0 Z = true) (w3 : (Jvm.Cond.selects y.cls y y).before a0 Z = true) (w5 : (Jvm.Cond.instanceMethod y).before a0 Z = true) (w6 : (Jvm.Cond.initialized y.cls).before a0 Z = true) (w4 : (Jvm.Cond.code y bytes maxL ret).before a0 Z = true) (hy : y.cls ≠ "java/lang/invoke/MethodHandle" ∧ y.cls ≠ "java/lang/invoke/VarHandle")
    (E : Exa Z h a y.cls)
    (M : own_M l y bytes maxL ret [] rm Z (Value.ref a :: as).toArray h (own_Q n0 h wsc P)) (q : ∀ x ∈ wsc, x ∈ ws ∨ h0.size ≤ x)
    (hf : rm.frames + 1 ≤ R.frames) (hl : W + (maxL + 11) + rm.locals ≤ R.locals) (hc : cells + rm.cells ≤ R.cells) (hs : slots + rm.slots ≤ R.slots) (hsize : Ls.size = c.maxLocals)
    (hlen : parseMethodDescriptor y.desc = some ⟨ps, r⟩) (hlen' : as.length = ps.length) (hstk : stk = as.reverse ++ .ref a :: rest) (hW : (rest.map fun v => v.category).sum ≤ W) (hd : decode c.code pc = .ok (.invokevirtual index, 3))
    (k : ∀ v T' h', own_S p l e R s m args below meth c n0 h0 ws T' h' (cells + rm.cells) (slots + rm.slots) → Keep h h' wsc → P v h' → own_G p e below G T' (mkF m (pc + 3) Ls (v.toList ++ rest))) :
    own_G p e below G T (mkF m pc Ls stk) := by
  obtain ⟨⟨locs, X, N⟩, e0, K⟩ := X
  obtain ⟨cq, kq, qa, qb, qc⟩ := isOf hZ e0 E
  obtain ⟨v, vm₁, ⟨T', L', k', n'⟩, -, X', ⟨Lc, hQ, l', y', z'⟩, st⟩ := X.virtualBack hx (y := y) (z := y) hown (mvT hZ w1) (mvT hZ w2) (notFace_of_selects (args := #[]) (mvT hZ w3)) (mvT hZ w3) (mvT hZ w5) hy (backOf (W := W) M hZ w4 w6 hf hl) qa qc (g := mkF m pc Ls stk) rfl hsize (Steps.refl _) (argsL := as) (rest := rest) (lenOf hlen hlen') hstk (by show 2 * 0 + _ ≤ _; rw [Nat.mul_zero, Nat.zero_add]; exact hW) hd (fun _ _ => ⟨rfl, e0, hc, hs⟩)
  dsimp only [Pt.U, Pt.locs, Pt.cells, Pt.slots] at X' l' y' z' st hQ
  subst l' y' z'
  obtain ⟨N', K', hP⟩ := hQ
  exact own_st (fun t => st.trans) (k v T' _ ⟨⟨_, X', N.app N'⟩, rfl, K.trans K' q⟩ K' hP)
theorem own_initO {a : Addr} (X : own_S p l e R s m args below meth c n0 h0 ws T h cells slots) (hx : p.tables.exec = Jvm.exec) (hZ : Z.Warmed39 s.vm) (hown : s.vm.findClass own = some m.cls)
    (w1 : (Jvm.Cond.methodLink own index Lib.objectInit).before a0 Z = true) (w2 : (Jvm.Cond.instanceMethod Lib.objectInit).before a0 Z = true) (w3 : (Jvm.Cond.code Lib.objectInit ⟨#[0xb1]⟩ 1 none).before a0 Z = true)
    (hf : 1 ≤ R.frames) (hl : W + 12 ≤ R.locals) (hsize : Ls.size = c.maxLocals) (hW : (rest.map fun v => v.category).sum ≤ W) (hd : decode c.code pc = .ok (.invokespecial index, 3))
    (k : ∀ T', own_S p l e R s m args below meth c n0 h0 ws T' h cells slots → own_G p e below G T' (mkF m (pc + 3) Ls rest)) :
    own_G p e below G T (mkF m pc Ls (.ref a :: rest)) := by
  obtain ⟨⟨locs, X, N⟩, e0, K⟩ := X
  obtain ⟨T1, X1, e1, st⟩ := initO X hx hZ hown w1 w2 w3 e0 (g := mkF m pc Ls (.ref a :: rest)) rfl hsize rfl hd hf (W := W) (by show 2 * 0 + _ ≤ _; rw [Nat.mul_zero, Nat.zero_add]; exact hW) hl
  exact own_st st (k T1 ⟨⟨_, X1, N⟩, e1, K⟩)
/-- a pure callee: it returns this and leaves the heap -/
def own_P (val : Value) (h0 : Heap) (v : Option Value) (h : Heap) : Prop := v = some val ∧ h = h0
theorem own_callSP (as : List Value) {val : Value} (X : own_S p l e R s m args below meth c n0 h0 ws T h cells slots) (hx : p.tables.exec = Jvm.exec) (hZ : Z.Warmed39 s.vm) (hown : s.vm.findClass own = some m.cls)
    (w1 : (Jvm.Cond.methodLink own index y).before a0 Z = true) (w2 : (Jvm.Cond.static y).before a0 Z = true) (w3 : (Jvm.Cond.initialized y.cls).before a0 Z = true) (w4 : (Jvm.Cond.code y bytes maxL ret).before a0 Z = true) (hy : y.cls ≠ "java/lang/invoke/MethodHandle" ∧ y.cls ≠ "java/lang/invoke/VarHandle")
    (M : own_M l y bytes maxL ret [] rm Z as.toArray h (own_Q n0 h [] (own_P val h)))
    (hf : rm.frames + 1 ≤ R.frames) (hl : W + (maxL + 11) + rm.locals ≤ R.locals) (hc : cells + rm.cells ≤ R.cells) (hs : slots + rm.slots ≤ R.slots) (hsize : Ls.size = c.maxLocals)
    (hlen : parseMethodDescriptor y.desc = some ⟨ps, r⟩) (hlen' : as.length = ps.length) (hstk : stk = as.reverse ++ rest) (hW : (rest.map fun v => v.category).sum ≤ W) (hd : decode c.code pc = .ok (.invokestatic index, 3))
    (k : ∀ T', own_S p l e R s m args below meth c n0 h0 ws T' h (cells + rm.cells) (slots + rm.slots) → own_G p e below G T' (mkF m (pc + 3) Ls (val :: rest))) :
    own_G p e below G T (mkF m pc Ls stk) :=
  own_callS as X hx hZ hown w1 w2 w3 w4 hy M (fun _ q => nomatch q) hf hl hc hs hsize hlen hlen' hstk hW hd fun v T' h' X' _ hv => by
    obtain ⟨hv, hh⟩ := hv
    rw [hv]; rw [hh] at X'
    exact k T' X'
/-- a callee that returns nothing and leaves the heap -/
def own_N (h0 : Heap) (v : Option Value) (h : Heap) : Prop := v = none ∧ h = h0
theorem own_callCN (as : List Value) {a : Addr} (X : own_S p l e R s m args below meth c n0 h0 ws T h cells slots) (hx : p.tables.exec = Jvm.exec) (hZ : Z.Warmed39 s.vm) (hown : s.vm.findClass own = some m.cls) (hy1 : y.name = "<init>")
    (w1 : (Jvm.Cond.methodLink own index y).before a0 Z = true) (w2 : (Jvm.Cond.instanceMethod y).before a0 Z = true) (w3 : (Jvm.Cond.initialized y.cls).before a0 Z = true) (w4 : (Jvm.Cond.code y bytes maxL none).before a0 Z = true) (hy : y.cls ≠ "java/lang/invoke/MethodHandle" ∧ y.cls ≠ "java/lang/invoke/VarHandle")
    (M : own_M l y bytes maxL none [] rm Z (Value.ref a :: as).toArray h (own_Q n0 h [] (own_N h)))
    (hf : rm.frames + 1 ≤ R.frames) (hl : W + (maxL + 11) + rm.locals ≤ R.locals) (hc : cells + rm.cells ≤ R.cells) (hs : slots + rm.slots ≤ R.slots) (hsize : Ls.size = c.maxLocals)
    (hlen : parseMethodDescriptor y.desc = some ⟨ps, r⟩) (hlen' : as.length = ps.length) (hstk : stk = as.reverse ++ .ref a :: rest) (hW : (rest.map fun v => v.category).sum ≤ W) (hd : decode c.code pc = .ok (.invokespecial index, 3))
    (k : ∀ T', own_S p l e R s m args below meth c n0 h0 ws T' h (cells + rm.cells) (slots + rm.slots) → own_G p e below G T' (mkF m (pc + 3) Ls rest)) :
    own_G p e below G T (mkF m pc Ls stk) :=
  own_callC as X hx hZ hown hy1 w1 w2 w3 w4 hy M (fun _ q => nomatch q) hf hl hc hs hsize hlen hlen' hstk hW hd fun v T' h' X' _ hv => by
    obtain ⟨hv, hh⟩ := hv
    rw [hv]; rw [hh] at X'
    exact k T' X'
theorem own_callVP (as : List Value) {val : Value} {a : Addr} (X : own_S p l e R s m args below meth c n0 h0 ws T h cells slots) (hx : p.tables.exec = Jvm.exec) (hZ : Z.Warmed39 s.vm) (hown : s.vm.findClass own = some m.cls)
    (w1 : (Jvm.Cond.methodLink own index y).before a0 Z = true) (w2 : (Jvm.Cond.declares y).before a0 Z = true) (w3 : (Jvm.Cond.selects y.cls y y).before a0 Z = true) (w5 : (Jvm.Cond.instanceMethod y).before a0 Z = true) (w6 : (Jvm.Cond.initialized y.cls).before a0 Z = true) (w4 : (Jvm.Cond.code y bytes maxL ret).before a0 Z = true) (hy : y.cls ≠ "java/lang/invoke/MethodHandle" ∧ y.cls ≠ "java/lang/invoke/VarHandle")
    (E : Exa Z h a y.cls)
    (M : own_M l y bytes maxL ret [] rm Z (Value.ref a :: as).toArray h (own_Q n0 h [] (own_P val h)))
    (hf : rm.frames + 1 ≤ R.frames) (hl : W + (maxL + 11) + rm.locals ≤ R.locals) (hc : cells + rm.cells ≤ R.cells) (hs : slots + rm.slots ≤ R.slots) (hsize : Ls.size = c.maxLocals)
    (hlen : parseMethodDescriptor y.desc = some ⟨ps, r⟩) (hlen' : as.length = ps.length) (hstk : stk = as.reverse ++ .ref a :: rest) (hW : (rest.map fun v => v.category).sum ≤ W) (hd : decode c.code pc = .ok (.invokevirtual index, 3))
    (k : ∀ T', own_S p l e R s m args below meth c n0 h0 ws T' h (cells + rm.cells) (slots + rm.slots) → own_G p e below G T' (mkF m (pc + 3) Ls (val :: rest))) :
    own_G p e below G T (mkF m pc Ls stk) :=
  own_callV as X hx hZ hown w1 w2 w3 w5 w6 w4 hy E M (fun _ q => nomatch q) hf hl hc hs hsize hlen hlen' hstk hW hd fun v T' h' X' _ hv => by
    obtain ⟨hv, hh⟩ := hv
    rw [hv]; rw [hh] at X'
    exact k T' X'
theorem own_irem {x z : Int32} (X : own_S p l e R s m args below meth c n0 h0 ws T h cells slots) (hx : p.tables.exec = Jvm.exec) (hd : decode c.code pc = .ok (.irem, 1)) (hz : z ≠ 0)
    (k : own_G p e below G T (mkF m (pc + 1) Ls (.int (x % z) :: rest))) : own_G p e below G T (mkF m pc Ls (.int z :: .int x :: rest)) :=
  own_st (fun t k => XS.irem X.her hx rfl hd rfl hz (by rw [irem_eq_mod]; exact k)) k
theorem own_lrem {x z : Int64} (X : own_S p l e R s m args below meth c n0 h0 ws T h cells slots) (hx : p.tables.exec = Jvm.exec) (hd : decode c.code pc = .ok (.lrem, 1)) (hz : z ≠ 0)
    (k : own_G p e below G T (mkF m (pc + 1) Ls (.long (x % z) :: rest))) : own_G p e below G T (mkF m pc Ls (.long z :: .long x :: rest)) :=
  own_st (fun t k => XS.lrem X.her hx rfl hd rfl hz (by rw [lrem_mod]; exact k)) k
theorem own_b2 (x : Int32) : x.toInt8.toInt32.toInt8.toInt32 = x.toInt8.toInt32 := by simp
end Calls
section Heap
variable {own : String} {index : Nat} {G : Outcome → State → Prop} {pc : Nat} {Ls : Array Slot} {rest : List Value}
theorem own_ldcI {v : Int32} (X : own_S p l e R s m args below meth c n0 h0 ws T h cells slots) (hx : p.tables.exec = Jvm.exec) (hZ : Z.Warmed39 s.vm) (hown : s.vm.findClass own = some m.cls) (w : (Jvm.Cond.constant own index v).before a0 Z = true) (hd : decode c.code pc = .ok (.ldc index, 2))
    (k : own_G p e below G T (mkF m (pc + 2) Ls (.int v :: rest))) : own_G p e below G T (mkF m pc Ls rest) := by
  obtain ⟨⟨locs, X, N⟩, e0, K⟩ := X
  exact own_st (X.ldcInt hx hown (mvT hZ w) (g := mkF m pc Ls rest) rfl hd) k
theorem own_ldcL {v : Int64} (X : own_S p l e R s m args below meth c n0 h0 ws T h cells slots) (hx : p.tables.exec = Jvm.exec) (hZ : Z.Warmed39 s.vm) (hown : s.vm.findClass own = some m.cls) (w : (Jvm.Cond.constantLong own index v).before a0 Z = true) (hd : decode c.code pc = .ok (.ldc2_w index, 3))
    (k : own_G p e below G T (mkF m (pc + 3) Ls (.long v :: rest))) : own_G p e below G T (mkF m pc Ls rest) := by
  obtain ⟨⟨locs, X, N⟩, e0, K⟩ := X
  exact own_st (X.ldc2Long hx hown (mvT hZ w) (g := mkF m pc Ls rest) rfl hd) k
theorem own_getF {a : Addr} {C n d : String} {v : Value} (X : own_S p l e R s m args below meth c n0 h0 ws T h cells slots) (hx : p.tables.exec = Jvm.exec) (hZ : Z.Warmed39 s.vm) (hown : s.vm.findClass own = some m.cls) (w : (Jvm.Cond.fieldLink own index C n d).before a0 Z = true) (F : Fld Z h a C n d v) (hd : decode c.code pc = .ok (.getfield index, 3))
    (k : ∀ T', own_S p l e R s m args below meth c n0 h0 ws T' h cells slots → own_G p e below G T' (mkF m (pc + 3) Ls (v :: rest))) : own_G p e below G T (mkF m pc Ls (.ref a :: rest)) := by
  obtain ⟨⟨locs, X, N⟩, e0, K⟩ := X
  obtain ⟨T1, X1, e1, st⟩ := getF X hx hZ hown (host := "") (Or.inl w) Via.refl e0 F (g := mkF m pc Ls (.ref a :: rest)) rfl rfl hd
  exact own_st st (k T1 ⟨⟨_, X1, N⟩, e1, K⟩)
theorem own_getS {C n d : String} {v : Value} (X : own_S p l e R s m args below meth c n0 h0 ws T h cells slots) (hx : p.tables.exec = Jvm.exec) (hZ : Z.Warmed39 s.vm) (hown : s.vm.findClass own = some m.cls) (w : (Jvm.Cond.fieldLink own index C n d).before a0 Z = true) (F : Sta Z h C n d v) (hd : decode c.code pc = .ok (.getstatic index, 3))
    (k : ∀ T', own_S p l e R s m args below meth c n0 h0 ws T' h cells slots → own_G p e below G T' (mkF m (pc + 3) Ls (v :: rest))) : own_G p e below G T (mkF m pc Ls rest) := by
  obtain ⟨⟨locs, X, N⟩, e0, K⟩ := X
  obtain ⟨T1, X1, e1, st⟩ := getS2 X hx hZ hown (host := "") (Or.inl w) Via.refl e0 F (g := mkF m pc Ls rest) rfl hd
  exact own_st st (k T1 ⟨⟨_, X1, N⟩, e1, K⟩)
theorem own_putF {a : Addr} {C n d : String} {v old : Value} {kk : Nat} {ty : FieldType} (X : own_S p l e R s m args below meth c n0 h0 ws T h cells slots) (hx : p.tables.exec = Jvm.exec) (hZ : Z.Warmed39 s.vm) (hown : s.vm.findClass own = some m.cls) (w : (Jvm.Cond.fieldLink own index C n d).before a0 Z = true) (F : Fld Z h a C n d old) (E : Exa Z h a C)
    (L : (Jvm.Cond.lays C C n d).before a0 Z = true ∨ ((Jvm.Cond.laysFinal C C n d).before a0 Z = true ∧ own = C ∧ meth.name = "<init>")) (wi : (Jvm.Cond.instantiable C kk).before a0 Z = true) (hty : parseFieldDescriptor d = some ty) (hn : narrow ty v = v) (hf : fits ty v = true) (hd : decode c.code pc = .ok (.putfield index, 3)) (ga : n0 ≤ a) (qa : a ∈ ws ∨ h0.size ≤ a)
    (k : ∀ T' h', own_S p l e R s m args below meth c n0 h0 ws T' h' cells slots → Wr h h' a (Jvm.RoadKit.slotOf Z C n d) v → Fld Z h' a C n d v → Exa Z h' a C → own_G p e below G T' (mkF m (pc + 3) Ls rest)) : own_G p e below G T (mkF m pc Ls (v :: .ref a :: rest)) := by
  obtain ⟨⟨locs, X, N⟩, e0, K⟩ := X
  obtain ⟨T1, h1, X1, e1, W1, st⟩ := putF X hx hZ hown (host := "") (Or.inl w) Via.refl e0 F E L wi hty hn hf (g := mkF m pc Ls (v :: .ref a :: rest)) rfl rfl hd
  exact own_st st (k T1 h1 ⟨⟨_, X1, Fr.snoc X1 N ga⟩, e1, K.wr W1 qa⟩ W1 (F.same W1) (E.wr W1))
theorem own_newO {C : String} {kk : Nat} (X : own_S p l e R s m args below meth c n0 h0 ws T h cells slots) (hx : p.tables.exec = Jvm.exec) (hZ : Z.Warmed39 s.vm) (hown : s.vm.findClass own = some m.cls) (w : (Jvm.Cond.classLink own index C).before a0 Z = true) (wi : (Jvm.Cond.instantiable C kk).before a0 Z = true) (wz : (Jvm.Cond.initialized C).before a0 Z = true) (hd : decode c.code pc = .ok (.new index, 3)) (hc : cells + 1 ≤ R.cells) (hl : slots + kk ≤ R.slots)
    (k : ∀ T' h' (b : Addr), b = h.size → h0.size ≤ b → own_S p l e R s m args below meth c n0 h0 ws T' h' (cells + 1) (slots + kk) → Ext h h' → Exa Z h' b C → (∀ {O nm d : String} {ty : FieldType}, Laid Z a0 C O nm d → parseFieldDescriptor d = some ty → Fld Z h' b O nm d (defaultValue ty)) → own_G p e below G T' (mkF m (pc + 3) Ls (.ref b :: rest))) : own_G p e below G T (mkF m pc Ls rest) := by
  obtain ⟨⟨locs, X, N⟩, e0, K⟩ := X
  obtain ⟨T1, h1, X1, e1, E1, A1, D1, -, st⟩ := newO X hx hZ hown w wi wz e0 (g := mkF m pc Ls rest) rfl hd hc hl
  exact own_st st (k T1 h1 _ rfl K.1 ⟨⟨_, X1, N⟩, e1, K.ext E1⟩ E1 A1 D1)
/-- a byte array with these elements -/
def own_B (Z : State) (h : Heap) (a : Addr) (L : List Int32) : Prop := ∃ c : Cell, Arr Z h a c .byte ∧ c.slots = (L.map Value.int).toArray
theorem own_B.lt {a : Addr} {L : List Int32} (B : own_B Z h a L) : a < h.size := by obtain ⟨c, A, _⟩ := B; exact A.lt
theorem own_B.ext {a : Addr} {L : List Int32} (B : own_B Z h a L) (E : Ext h h') : own_B Z h' a L := by obtain ⟨c, A, q⟩ := B; exact ⟨c, A.ext E, q⟩
theorem own_B.other {a b : Addr} {L : List Int32} {sl : Nat} {v : Value} (B : own_B Z h b L) (W : Wr h h' a sl v) (q : b ≠ a) : own_B Z h' b L := by obtain ⟨c, A, r⟩ := B; exact ⟨c, A.other W q, r⟩
theorem own_B.keep {a : Addr} {L : List Int32} (B : own_B Z h a L) (K : Keep h h' ws) (q : a ∉ ws) : own_B Z h' a L := by obtain ⟨c, A, r⟩ := B; exact ⟨c, ⟨K.2.1 a c A.1 q, A.2⟩, r⟩
theorem own_bload {a : Addr} {L : List Int32} {j v : Int32} (X : own_S p l e R s m args below meth c n0 h0 ws T h cells slots) (hx : p.tables.exec = Jvm.exec) (hZ : Z.Warmed39 s.vm) (B : own_B Z h a L) (hj : ¬ j < 0) (hv : L[j.toNatClampNeg]? = some v) (hd : decode c.code pc = .ok (.baload, 1))
    (k : own_G p e below G T (mkF m (pc + 1) Ls (.int v :: rest))) : own_G p e below G T (mkF m pc Ls (.int j :: .ref a :: rest)) := by
  obtain ⟨⟨locs, X, N⟩, e0, K⟩ := X
  obtain ⟨cl, A, q⟩ := B
  have h1 : cl.slots[j.toNatClampNeg]? = some (.int v) := by rw [q]; simp [hv]
  have h2 : ¬ (j < 0 ∨ cl.slots.size ≤ j.toNatClampNeg) := fun z => z.elim hj fun z => by
    have := (Array.getElem?_eq_some_iff.mp h1).1
    omega
  exact own_st (X.baloadBytes hx (j := j) (v := .int v) (by rw [e0]; exact A.1) (State.isArrayOf_alike hZ.alike A.2.1) A.2.2 h2 h1 (g := mkF m pc Ls (.int j :: .ref a :: rest)) rfl rfl hd) k
theorem own_bstore {a : Addr} {L : List Int32} {j x : Int32} (X : own_S p l e R s m args below meth c n0 h0 ws T h cells slots) (hx : p.tables.exec = Jvm.exec) (hZ : Z.Warmed39 s.vm) (B : own_B Z h a L) (hj : ¬ j < 0) (hv : j.toNatClampNeg < L.length) (hd : decode c.code pc = .ok (.bastore, 1)) (ga : n0 ≤ a) (qa : a ∈ ws ∨ h0.size ≤ a)
    (k : ∀ T' h', own_S p l e R s m args below meth c n0 h0 ws T' h' cells slots → Keep h h' [a] → Wr h h' a j.toNatClampNeg (.int (nar .byte x)) → own_B Z h' a (L.set j.toNatClampNeg x.toInt8.toInt32) → own_G p e below G T' (mkF m (pc + 1) Ls rest)) : own_G p e below G T (mkF m pc Ls (.int x :: .int j :: .ref a :: rest)) := by
  obtain ⟨⟨locs, X, N⟩, e0, K⟩ := X
  obtain ⟨cl, A, q⟩ := B
  have h2 : ¬ (j < 0 ∨ cl.slots.size ≤ j.toNatClampNeg) := fun z => z.elim hj fun z => by
    rw [q] at z
    simp at z
    omega
  obtain ⟨T1, h1, X1, e1, W1, st⟩ := stB X hx hZ e0 A (j := j) (x := x) h2 (g := mkF m pc Ls (.int x :: .int j :: .ref a :: rest)) rfl rfl hd
  refine own_st st (k T1 h1 ⟨⟨_, X1, Fr.snoc X1 N ga⟩, e1, K.wr W1 qa⟩ (Keep.of_wr W1) W1 ⟨_, A.same W1, ?_⟩)
  show (cl.slots.setIfInBounds j.toNatClampNeg _) = _
  rw [q]
  simp [nar]
theorem own_newB {n : Int32} {kk : Nat} (X : own_S p l e R s m args below meth c n0 h0 ws T h cells slots) (hx : p.tables.exec = Jvm.exec) (hZ : Z.Warmed39 s.vm) (w : (Jvm.Cond.arrayClass .byte).before a0 Z = true) (hn : ¬ n < 0) (hk : n.toNatClampNeg = kk) (hb : kk * 8 ≤ 536870912) (hc : cells + 1 ≤ R.cells) (hl : slots + kk ≤ R.slots) (hd : decode c.code pc = .ok (.newarray .byte, 2))
    (k : ∀ T' h' (b : Addr), b = h.size → h0.size ≤ b → own_S p l e R s m args below meth c n0 h0 ws T' h' (cells + 1) (slots + kk) → Ext h h' → own_B Z h' b (List.replicate kk 0) → own_G p e below G T' (mkF m (pc + 2) Ls (.ref b :: rest))) : own_G p e below G T (mkF m pc Ls (.int n :: rest)) := by
  obtain ⟨⟨locs, X, N⟩, e0, K⟩ := X
  obtain ⟨T1, h1, cA, X1, e1, E1, A1, st⟩ := newP X hx hZ (aty := .byte) w e0 (g := mkF m pc Ls (.int n :: rest)) rfl hd rfl hn (cap := kk) (Nat.le_of_eq hk) hb hc hl
  refine own_st st (k T1 h1 _ rfl K.1 ⟨⟨_, X1, N⟩, e1, K.ext E1⟩ E1 ⟨_, A1, ?_⟩)
  show Array.replicate n.toNatClampNeg (defaultValue .byte) = _
  rw [hk]
  simp [defaultValue]
end Heap
end Own
theorem own_w0 {Z : State} {a0 : Array Value} (hw : ∀ d ∈ tables_1, d.before a0 Z = true) : (Jvm.Cond.methodLink "com/example/bidwright/bidwright/game/FlightTrendIsUpdateTimePinLaw" (7 : Nat) ({ cls := "com/example/bidwright/bidwright/game/FlightTrend", name := "isUpdateTime", desc := "(I)Z" } : Jvm.MethodName)).before a0 Z = true := hw _ (List.mem_of_getElem? (i := 0) rfl)
theorem own_w1 {Z : State} {a0 : Array Value} (hw : ∀ d ∈ tables_1, d.before a0 Z = true) : (Jvm.Cond.static ({ cls := "com/example/bidwright/bidwright/game/FlightTrend", name := "isUpdateTime", desc := "(I)Z" } : Jvm.MethodName)).before a0 Z = true := hw _ (List.mem_of_getElem? (i := 1) rfl)
theorem own_w2 {Z : State} {a0 : Array Value} (hw : ∀ d ∈ tables_1, d.before a0 Z = true) : (Jvm.Cond.initialized "com/example/bidwright/bidwright/game/FlightTrend").before a0 Z = true := hw _ (List.mem_of_getElem? (i := 2) rfl)
theorem own_w3 {Z : State} {a0 : Array Value} (hw : ∀ d ∈ tables_1, d.before a0 Z = true) : (Jvm.Cond.code ({ cls := "com/example/bidwright/bidwright/game/FlightTrend", name := "isUpdateTime", desc := "(I)Z" } : Jvm.MethodName) prog_69_method_7_code (1 : Nat) (Option.some Jvm.ClassFile.FieldType.boolean)).before a0 Z = true := hw _ (List.mem_of_getElem? (i := 3) rfl)
theorem own_w4 {Z : State} {a0 : Array Value} (hw : ∀ d ∈ tables_1, d.before a0 Z = true) : (Jvm.Cond.methodLink "com/example/bidwright/bidwright/game/FlightTrendIsUpdateTimePinLaw" (13 : Nat) ({ cls := "com/example/bidwright/bidwright/game/FlightTrendIsUpdateTimePinLaw", name := "expected", desc := "(I)Z" } : Jvm.MethodName)).before a0 Z = true := hw _ (List.mem_of_getElem? (i := 4) rfl)
theorem own_w5 {Z : State} {a0 : Array Value} (hw : ∀ d ∈ tables_1, d.before a0 Z = true) : (Jvm.Cond.static ({ cls := "com/example/bidwright/bidwright/game/FlightTrendIsUpdateTimePinLaw", name := "expected", desc := "(I)Z" } : Jvm.MethodName)).before a0 Z = true := hw _ (List.mem_of_getElem? (i := 5) rfl)
theorem own_w6 {Z : State} {a0 : Array Value} (hw : ∀ d ∈ tables_1, d.before a0 Z = true) : (Jvm.Cond.initialized "com/example/bidwright/bidwright/game/FlightTrendIsUpdateTimePinLaw").before a0 Z = true := hw _ (List.mem_of_getElem? (i := 6) rfl)
theorem own_w7 {Z : State} {a0 : Array Value} (hw : ∀ d ∈ tables_1, d.before a0 Z = true) : (Jvm.Cond.code ({ cls := "com/example/bidwright/bidwright/game/FlightTrendIsUpdateTimePinLaw", name := "expected", desc := "(I)Z" } : Jvm.MethodName) method_2_code (2 : Nat) (Option.some Jvm.ClassFile.FieldType.boolean)).before a0 Z = true := hw _ (List.mem_of_getElem? (i := 7) rfl)
theorem own_w8 {Z : State} {a0 : Array Value} (hw : ∀ d ∈ tables_1, d.before a0 Z = true) : (Jvm.Cond.constant "com/example/bidwright/bidwright/game/FlightTrendIsUpdateTimePinLaw" (18 : Nat) (2147483647 : Int32)).before a0 Z = true := hw _ (List.mem_of_getElem? (i := 8) rfl)
theorem own_pd0 : parseMethodDescriptor "(I)Z" = some ⟨[.int], some .boolean⟩ := by decide +kernel
theorem own_pn0 : plainName "com/example/bidwright/bidwright/game/FlightTrend" = true := by first | (simp [plainName, overriddenIn]; done) | decide +kernel
theorem own_pn1 : plainName "com/example/bidwright/bidwright/game/FlightTrendIsUpdateTimePinLaw" = true := by first | (simp [plainName, overriddenIn]; done) | decide +kernel
theorem own_pd1 : parseMethodDescriptor "(III)Z" = some ⟨[.int, .int, .int], some .boolean⟩ := by decide +kernel
theorem d1_0 : decode prog_69_method_7_code 0 = .ok (.iload_n 0, 1) := by decide +kernel
theorem d1_1 : decode prog_69_method_7_code 1 = .ok (.bipush 10, 2) := by decide +kernel
theorem d1_3 : decode prog_69_method_7_code 3 = .ok (.if_icmp .lt 21, 3) := by decide +kernel
theorem d1_6 : decode prog_69_method_7_code 6 = .ok (.iload_n 0, 1) := by decide +kernel
theorem d1_7 : decode prog_69_method_7_code 7 = .ok (.sipush 530, 3) := by decide +kernel
theorem d1_10 : decode prog_69_method_7_code 10 = .ok (.if_icmp .gt 14, 3) := by decide +kernel
theorem d1_13 : decode prog_69_method_7_code 13 = .ok (.iload_n 0, 1) := by decide +kernel
theorem d1_14 : decode prog_69_method_7_code 14 = .ok (.bipush 10, 2) := by decide +kernel
theorem d1_16 : decode prog_69_method_7_code 16 = .ok (.irem, 1) := by decide +kernel
theorem d1_17 : decode prog_69_method_7_code 17 = .ok (.ifCond .ne 7, 3) := by decide +kernel
theorem d1_20 : decode prog_69_method_7_code 20 = .ok (.iconst 1, 1) := by decide +kernel
theorem d1_21 : decode prog_69_method_7_code 21 = .ok (.goto 4, 3) := by decide +kernel
theorem d1_24 : decode prog_69_method_7_code 24 = .ok (.iconst 0, 1) := by decide +kernel
theorem d1_25 : decode prog_69_method_7_code 25 = .ok (.ireturn, 1) := by decide +kernel
/-- what the body returns -/
def own_F1 (p0 : Int32) : Int32 :=
  (if p0 < (10 : Int32) then (0 : Int32) else (if (530 : Int32) < p0 then (0 : Int32) else (if (p0 % (10 : Int32)) = (0 : Int32) then (1 : Int32) else (0 : Int32))))
theorem own_ef1 (m : MethodId) (p0 : Int32) : entryFrame m #[(.int p0)] 1 = mkF m 0 #[.val (.int p0)] [] := by first | (simp [entryFrame, mkF, argsToLocals, Value.category]; done) | rfl
set_option maxRecDepth 65536 in
set_option maxHeartbeats 40000000 in
theorem own_c1 (l : Launch) (Z : State) (a0 : Array Value) (hw : ∀ d ∈ tables_1, d.before a0 Z = true) (h0 : Heap) (n0 : Nat) (Z0 : n0 ≤ h0.size) (p0 : Int32) :
    own_M l (⟨"com/example/bidwright/bidwright/game/FlightTrend", "isUpdateTime", "(I)Z"⟩ : MethodName) prog_69_method_7_code 1 (some .boolean) [] ({ frames := 0, cells := 0, slots := 0, locals := 0 } : Room) Z #[(.int p0)] h0 (own_Q n0 h0 [] (own_P (.int (own_F1 p0)) h0)) := by
  refine own_body (plainFor_of_name own_pn0) ?_
  intro p e s m below meth c T0 X0 hx hby hml hown hnm hret hlk hZ
  refine own_cast (own_ef1 m p0) ?_
  refine own_st (f' := (mkF m 1 #[.val (.int p0)] [(.int p0)])) (fun t k => XS.iloadN X0.her hx rfl (hb hby d1_0) rfl k) ?_
  refine own_st (f' := (mkF m 3 #[.val (.int p0)] [(.int (10 : Int32)), (.int p0)])) (fun t k => XS.bipush X0.her hx rfl (hb hby d1_1) k) ?_
  by_cases hc1 : p0 < (10 : Int32)
  · refine own_st (f' := (mkF m 24 #[.val (.int p0)] [])) (fun t k => XS.icmpYes X0.her hx rfl (pc0 := 3) (pc' := 24) rfl (hb hby d1_3) rfl (tlt hc1).1 (by decide) (by decide) k) ?_
    refine own_st (f' := (mkF m 25 #[.val (.int p0)] [(.int (0 : Int32))])) (fun t k => XS.iconst X0.her hx rfl (hb hby d1_24) k) ?_
    refine own_retN (t := .boolean) X0 hx hret hlk (by simp) (hb hby d1_25) (by first | decide | omega) (by first | decide | omega) ?_
    exact ⟨congrArg (fun q => some (Value.int q)) (by unfold own_F1; rw [if_pos hc1]; first | done | exact by decide), rfl⟩
  · refine own_st (f' := (mkF m 6 #[.val (.int p0)] [])) (fun t k => XS.icmpNo X0.her hx rfl (hb hby d1_3) rfl (flt hc1).1 k) ?_
    refine own_st (f' := (mkF m 7 #[.val (.int p0)] [(.int p0)])) (fun t k => XS.iloadN X0.her hx rfl (hb hby d1_6) rfl k) ?_
    refine own_st (f' := (mkF m 10 #[.val (.int p0)] [(.int (530 : Int32)), (.int p0)])) (fun t k => XS.sipush X0.her hx rfl (hb hby d1_7) k) ?_
    by_cases hc2 : (530 : Int32) < p0
    · refine own_st (f' := (mkF m 24 #[.val (.int p0)] [])) (fun t k => XS.icmpYes X0.her hx rfl (pc0 := 10) (pc' := 24) rfl (hb hby d1_10) rfl (tlt hc2).2.2.1 (by decide) (by decide) k) ?_
      refine own_st (f' := (mkF m 25 #[.val (.int p0)] [(.int (0 : Int32))])) (fun t k => XS.iconst X0.her hx rfl (hb hby d1_24) k) ?_
      refine own_retN (t := .boolean) X0 hx hret hlk (by simp) (hb hby d1_25) (by first | decide | omega) (by first | decide | omega) ?_
      exact ⟨congrArg (fun q => some (Value.int q)) (by unfold own_F1; rw [if_neg hc1, if_pos hc2]; first | done | exact by decide), rfl⟩
    · refine own_st (f' := (mkF m 13 #[.val (.int p0)] [])) (fun t k => XS.icmpNo X0.her hx rfl (hb hby d1_10) rfl (flt hc2).2.2.1 k) ?_
      refine own_st (f' := (mkF m 14 #[.val (.int p0)] [(.int p0)])) (fun t k => XS.iloadN X0.her hx rfl (hb hby d1_13) rfl k) ?_
      refine own_st (f' := (mkF m 16 #[.val (.int p0)] [(.int (10 : Int32)), (.int p0)])) (fun t k => XS.bipush X0.her hx rfl (hb hby d1_14) k) ?_
      refine own_irem X0 hx (hb hby d1_16) (by decide) ?_
      by_cases hc3 : (p0 % (10 : Int32)) = (0 : Int32)
      · refine own_st (f' := (mkF m 20 #[.val (.int p0)] [])) (fun t k => XS.ifNo X0.her hx rfl (hb hby d1_17) rfl ((if0 _ _).trans (teq hc3).2) k) ?_
        refine own_st (f' := (mkF m 21 #[.val (.int p0)] [(.int (1 : Int32))])) (fun t k => XS.iconst X0.her hx rfl (hb hby d1_20) k) ?_
        refine own_st (f' := (mkF m 25 #[.val (.int p0)] [(.int (1 : Int32))])) (fun t k => XS.goto X0.her hx rfl (pc0 := 21) (pc' := 25) rfl (hb hby d1_21) (by decide) (by decide) k) ?_
        refine own_retN (t := .boolean) X0 hx hret hlk (by simp) (hb hby d1_25) (by first | decide | omega) (by first | decide | omega) ?_
        exact ⟨congrArg (fun q => some (Value.int q)) (by unfold own_F1; rw [if_neg hc1, if_neg hc2, if_pos hc3]; first | done | exact by decide), rfl⟩
      · refine own_st (f' := (mkF m 24 #[.val (.int p0)] [])) (fun t k => XS.ifYes X0.her hx rfl (pc0 := 17) (pc' := 24) rfl (hb hby d1_17) rfl ((if0 _ _).trans (feq hc3).2) (by decide) (by decide) k) ?_
        refine own_st (f' := (mkF m 25 #[.val (.int p0)] [(.int (0 : Int32))])) (fun t k => XS.iconst X0.her hx rfl (hb hby d1_24) k) ?_
        refine own_retN (t := .boolean) X0 hx hret hlk (by simp) (hb hby d1_25) (by first | decide | omega) (by first | decide | omega) ?_
        exact ⟨congrArg (fun q => some (Value.int q)) (by unfold own_F1; rw [if_neg hc1, if_neg hc2, if_neg hc3]; first | done | exact by decide), rfl⟩
theorem d2_0 : decode method_2_code 0 = .ok (.iload_n 0, 1) := by decide +kernel
theorem d2_1 : decode method_2_code 1 = .ok (.bipush 10, 2) := by decide +kernel
theorem d2_3 : decode method_2_code 3 = .ok (.idiv, 1) := by decide +kernel
theorem d2_4 : decode method_2_code 4 = .ok (.istore_n 1, 1) := by decide +kernel
theorem d2_5 : decode method_2_code 5 = .ok (.iload_n 0, 1) := by decide +kernel
theorem d2_6 : decode method_2_code 6 = .ok (.iload_n 1, 1) := by decide +kernel
theorem d2_7 : decode method_2_code 7 = .ok (.bipush 10, 2) := by decide +kernel
theorem d2_9 : decode method_2_code 9 = .ok (.imul, 1) := by decide +kernel
theorem d2_10 : decode method_2_code 10 = .ok (.if_icmp .ne 18, 3) := by decide +kernel
theorem d2_13 : decode method_2_code 13 = .ok (.iload_n 1, 1) := by decide +kernel
theorem d2_14 : decode method_2_code 14 = .ok (.iconst 1, 1) := by decide +kernel
theorem d2_15 : decode method_2_code 15 = .ok (.if_icmp .lt 13, 3) := by decide +kernel
theorem d2_18 : decode method_2_code 18 = .ok (.iload_n 1, 1) := by decide +kernel
theorem d2_19 : decode method_2_code 19 = .ok (.bipush 53, 2) := by decide +kernel
theorem d2_21 : decode method_2_code 21 = .ok (.if_icmp .gt 7, 3) := by decide +kernel
theorem d2_24 : decode method_2_code 24 = .ok (.iconst 1, 1) := by decide +kernel
theorem d2_25 : decode method_2_code 25 = .ok (.goto 4, 3) := by decide +kernel
theorem d2_28 : decode method_2_code 28 = .ok (.iconst 0, 1) := by decide +kernel
theorem d2_29 : decode method_2_code 29 = .ok (.ireturn, 1) := by decide +kernel
/-- what the body returns -/
def own_F2 (p0 : Int32) : Int32 :=
  (if p0 = ((p0 / (10 : Int32)) * (10 : Int32)) then (if (p0 / (10 : Int32)) < (1 : Int32) then (0 : Int32) else (if (53 : Int32) < (p0 / (10 : Int32)) then (0 : Int32) else (1 : Int32))) else (0 : Int32))
theorem own_ef2 (m : MethodId) (p0 : Int32) : entryFrame m #[(.int p0)] 2 = mkF m 0 #[.val (.int p0), .unset] [] := by first | (simp [entryFrame, mkF, argsToLocals, Value.category]; done) | rfl
set_option maxRecDepth 65536 in
set_option maxHeartbeats 40000000 in
theorem own_c2 (l : Launch) (Z : State) (a0 : Array Value) (hw : ∀ d ∈ tables_1, d.before a0 Z = true) (h0 : Heap) (n0 : Nat) (Z0 : n0 ≤ h0.size) (p0 : Int32) :
    own_M l (⟨"com/example/bidwright/bidwright/game/FlightTrendIsUpdateTimePinLaw", "expected", "(I)Z"⟩ : MethodName) method_2_code 2 (some .boolean) [] ({ frames := 0, cells := 0, slots := 0, locals := 0 } : Room) Z #[(.int p0)] h0 (own_Q n0 h0 [] (own_P (.int (own_F2 p0)) h0)) := by
  refine own_body (plainFor_of_name own_pn1) ?_
  intro p e s m below meth c T0 X0 hx hby hml hown hnm hret hlk hZ
  refine own_cast (own_ef2 m p0) ?_
  refine own_st (f' := (mkF m 1 #[.val (.int p0), .unset] [(.int p0)])) (fun t k => XS.iloadN X0.her hx rfl (hb hby d2_0) rfl k) ?_
  refine own_st (f' := (mkF m 3 #[.val (.int p0), .unset] [(.int (10 : Int32)), (.int p0)])) (fun t k => XS.bipush X0.her hx rfl (hb hby d2_1) k) ?_
  refine own_st (f' := (mkF m 4 #[.val (.int p0), .unset] [(.int (p0 / (10 : Int32)))])) (fun t k => XS.idiv X0.her hx rfl (hb hby d2_3) rfl (by decide) k) ?_
  refine own_st (f' := (mkF m 5 #[.val (.int p0), .val (.int (p0 / (10 : Int32)))] [])) (fun t k => XS.istoreN X0.her hx rfl (hb hby d2_4) rfl (l' := #[.val (.int p0), .val (.int (p0 / (10 : Int32)))]) rfl k) ?_
  refine own_st (f' := (mkF m 6 #[.val (.int p0), .val (.int (p0 / (10 : Int32)))] [(.int p0)])) (fun t k => XS.iloadN X0.her hx rfl (hb hby d2_5) rfl k) ?_
  refine own_st (f' := (mkF m 7 #[.val (.int p0), .val (.int (p0 / (10 : Int32)))] [(.int (p0 / (10 : Int32))), (.int p0)])) (fun t k => XS.iloadN X0.her hx rfl (hb hby d2_6) rfl k) ?_
  refine own_st (f' := (mkF m 9 #[.val (.int p0), .val (.int (p0 / (10 : Int32)))] [(.int (10 : Int32)), (.int (p0 / (10 : Int32))), (.int p0)])) (fun t k => XS.bipush X0.her hx rfl (hb hby d2_7) k) ?_
  refine own_st (f' := (mkF m 10 #[.val (.int p0), .val (.int (p0 / (10 : Int32)))] [(.int ((p0 / (10 : Int32)) * (10 : Int32))), (.int p0)])) (fun t k => XS.imul X0.her hx rfl (hb hby d2_9) rfl k) ?_
  by_cases hc4 : p0 = ((p0 / (10 : Int32)) * (10 : Int32))
  · refine own_st (f' := (mkF m 13 #[.val (.int p0), .val (.int (p0 / (10 : Int32)))] [])) (fun t k => XS.icmpNo X0.her hx rfl (hb hby d2_10) rfl (teq hc4).2 k) ?_
    refine own_st (f' := (mkF m 14 #[.val (.int p0), .val (.int (p0 / (10 : Int32)))] [(.int (p0 / (10 : Int32)))])) (fun t k => XS.iloadN X0.her hx rfl (hb hby d2_13) rfl k) ?_
    refine own_st (f' := (mkF m 15 #[.val (.int p0), .val (.int (p0 / (10 : Int32)))] [(.int (1 : Int32)), (.int (p0 / (10 : Int32)))])) (fun t k => XS.iconst X0.her hx rfl (hb hby d2_14) k) ?_
    by_cases hc5 : (p0 / (10 : Int32)) < (1 : Int32)
    · refine own_st (f' := (mkF m 28 #[.val (.int p0), .val (.int (p0 / (10 : Int32)))] [])) (fun t k => XS.icmpYes X0.her hx rfl (pc0 := 15) (pc' := 28) rfl (hb hby d2_15) rfl (tlt hc5).1 (by decide) (by decide) k) ?_
      refine own_st (f' := (mkF m 29 #[.val (.int p0), .val (.int (p0 / (10 : Int32)))] [(.int (0 : Int32))])) (fun t k => XS.iconst X0.her hx rfl (hb hby d2_28) k) ?_
      refine own_retN (t := .boolean) X0 hx hret hlk (by simp) (hb hby d2_29) (by first | decide | omega) (by first | decide | omega) ?_
      exact ⟨congrArg (fun q => some (Value.int q)) (by unfold own_F2; rw [if_pos hc4, if_pos hc5]; first | done | exact by decide), rfl⟩
    · refine own_st (f' := (mkF m 18 #[.val (.int p0), .val (.int (p0 / (10 : Int32)))] [])) (fun t k => XS.icmpNo X0.her hx rfl (hb hby d2_15) rfl (flt hc5).1 k) ?_
      refine own_st (f' := (mkF m 19 #[.val (.int p0), .val (.int (p0 / (10 : Int32)))] [(.int (p0 / (10 : Int32)))])) (fun t k => XS.iloadN X0.her hx rfl (hb hby d2_18) rfl k) ?_
      refine own_st (f' := (mkF m 21 #[.val (.int p0), .val (.int (p0 / (10 : Int32)))] [(.int (53 : Int32)), (.int (p0 / (10 : Int32)))])) (fun t k => XS.bipush X0.her hx rfl (hb hby d2_19) k) ?_
      by_cases hc6 : (53 : Int32) < (p0 / (10 : Int32))
      · refine own_st (f' := (mkF m 28 #[.val (.int p0), .val (.int (p0 / (10 : Int32)))] [])) (fun t k => XS.icmpYes X0.her hx rfl (pc0 := 21) (pc' := 28) rfl (hb hby d2_21) rfl (tlt hc6).2.2.1 (by decide) (by decide) k) ?_
        refine own_st (f' := (mkF m 29 #[.val (.int p0), .val (.int (p0 / (10 : Int32)))] [(.int (0 : Int32))])) (fun t k => XS.iconst X0.her hx rfl (hb hby d2_28) k) ?_
        refine own_retN (t := .boolean) X0 hx hret hlk (by simp) (hb hby d2_29) (by first | decide | omega) (by first | decide | omega) ?_
        exact ⟨congrArg (fun q => some (Value.int q)) (by unfold own_F2; rw [if_pos hc4, if_neg hc5, if_pos hc6]; first | done | exact by decide), rfl⟩
      · refine own_st (f' := (mkF m 24 #[.val (.int p0), .val (.int (p0 / (10 : Int32)))] [])) (fun t k => XS.icmpNo X0.her hx rfl (hb hby d2_21) rfl (flt hc6).2.2.1 k) ?_
        refine own_st (f' := (mkF m 25 #[.val (.int p0), .val (.int (p0 / (10 : Int32)))] [(.int (1 : Int32))])) (fun t k => XS.iconst X0.her hx rfl (hb hby d2_24) k) ?_
        refine own_st (f' := (mkF m 29 #[.val (.int p0), .val (.int (p0 / (10 : Int32)))] [(.int (1 : Int32))])) (fun t k => XS.goto X0.her hx rfl (pc0 := 25) (pc' := 29) rfl (hb hby d2_25) (by decide) (by decide) k) ?_
        refine own_retN (t := .boolean) X0 hx hret hlk (by simp) (hb hby d2_29) (by first | decide | omega) (by first | decide | omega) ?_
        exact ⟨congrArg (fun q => some (Value.int q)) (by unfold own_F2; rw [if_pos hc4, if_neg hc5, if_neg hc6]; first | done | exact by decide), rfl⟩
  · refine own_st (f' := (mkF m 28 #[.val (.int p0), .val (.int (p0 / (10 : Int32)))] [])) (fun t k => XS.icmpYes X0.her hx rfl (pc0 := 10) (pc' := 28) rfl (hb hby d2_10) rfl (feq hc4).2 (by decide) (by decide) k) ?_
    refine own_st (f' := (mkF m 29 #[.val (.int p0), .val (.int (p0 / (10 : Int32)))] [(.int (0 : Int32))])) (fun t k => XS.iconst X0.her hx rfl (hb hby d2_28) k) ?_
    refine own_retN (t := .boolean) X0 hx hret hlk (by simp) (hb hby d2_29) (by first | decide | omega) (by first | decide | omega) ?_
    exact ⟨congrArg (fun q => some (Value.int q)) (by unfold own_F2; rw [if_neg hc4]; first | done | exact by decide), rfl⟩
def own_t0_26 (p0 : Int32) (p1 : Int32) (p2 : Int32) : Int32 := (((p1 &&& (2147483647 : Int32)) % (60 : Int32)) - (3 : Int32))
def own_t0_36 (p0 : Int32) (p1 : Int32) (p2 : Int32) : Int32 := (((p2 &&& (2147483647 : Int32)) % (3 : Int32)) - (1 : Int32))
def own_t0_46 (p0 : Int32) (p1 : Int32) (p2 : Int32) : Int32 := (((own_t0_26 p0 p1 p2) * (10 : Int32)) + (own_t0_36 p0 p1 p2))
/-- what the body returns -/
def own_F0 (p0 : Int32) (p1 : Int32) (p2 : Int32) : Int32 :=
  (if (own_F1 p0) = (own_F2 p0) then (if (own_t0_36 p0 p1 p2) = (0 : Int32) then (if (own_t0_26 p0 p1 p2) < (1 : Int32) then (if (own_F1 (own_t0_46 p0 p1 p2)) = (0 : Int32) then (1 : Int32) else (0 : Int32)) else (if (53 : Int32) < (own_t0_26 p0 p1 p2) then (if (own_F1 (own_t0_46 p0 p1 p2)) = (0 : Int32) then (1 : Int32) else (0 : Int32)) else (if (own_F1 (own_t0_46 p0 p1 p2)) = (1 : Int32) then (1 : Int32) else (0 : Int32)))) else (if (own_F1 (own_t0_46 p0 p1 p2)) = (0 : Int32) then (1 : Int32) else (0 : Int32))) else (if (own_t0_36 p0 p1 p2) = (0 : Int32) then (if (own_t0_26 p0 p1 p2) < (1 : Int32) then (if (own_F1 (own_t0_46 p0 p1 p2)) = (0 : Int32) then (0 : Int32) else (0 : Int32)) else (if (53 : Int32) < (own_t0_26 p0 p1 p2) then (if (own_F1 (own_t0_46 p0 p1 p2)) = (0 : Int32) then (0 : Int32) else (0 : Int32)) else (if (own_F1 (own_t0_46 p0 p1 p2)) = (1 : Int32) then (0 : Int32) else (0 : Int32)))) else (if (own_F1 (own_t0_46 p0 p1 p2)) = (0 : Int32) then (0 : Int32) else (0 : Int32))))
theorem own_ef0 (m : MethodId) (p0 : Int32) (p1 : Int32) (p2 : Int32) : entryFrame m #[(.int p0), (.int p1), (.int p2)] maxLocals = mkF m 0 #[.val (.int p0), .val (.int p1), .val (.int p2), .unset, .unset, .unset, .unset, .unset, .unset] [] := by first | (simp [entryFrame, mkF, argsToLocals, Value.category, maxLocals]; done) | rfl
set_option maxRecDepth 65536 in
set_option maxHeartbeats 40000000 in
theorem own_c0 (l : Launch) (Z : State) (a0 : Array Value) (hw : ∀ d ∈ tables_1, d.before a0 Z = true) (h0 : Heap) (n0 : Nat) (Z0 : n0 ≤ h0.size) (p0 : Int32) (p1 : Int32) (p2 : Int32) :
    own_M l x code maxLocals ret tables_1 room_1 Z #[(.int p0), (.int p1), (.int p2)] h0 (own_Q n0 h0 [] (fun v _ => v = some (.int (own_F0 p0 p1 p2)))) := by
  refine own_body (plainFor_of_name own_pn1) ?_
  intro p e s m below meth c T0 X0 hx hby hml hown hnm hret hlk hZ
  refine own_cast (own_ef0 m p0 p1 p2) ?_
  refine own_st (f' := (mkF m 1 #[.val (.int p0), .val (.int p1), .val (.int p2), .unset, .unset, .unset, .unset, .unset, .unset] [(.int p0)])) (fun t k => XS.iloadN X0.her hx rfl (hb hby at_0) rfl k) ?_
  refine own_callSP (y := (⟨"com/example/bidwright/bidwright/game/FlightTrend", "isUpdateTime", "(I)Z"⟩ : MethodName)) (W := 0) [(.int p0)] X0 hx hZ hown (own_w0 hw) (own_w1 hw) (own_w2 hw) (own_w3 hw) (by decide) (own_c1 l Z a0 hw h0 n0 Z0 p0) (by decide) (by decide) (by decide) (by decide) (by rw [hml]; rfl) own_pd0 rfl rfl (Nat.le_of_eq rfl) (hb hby at_1) ?_
  intro T7 X7
  show own_G p e below _ T7 (mkF m 4 #[.val (.int p0), .val (.int p1), .val (.int p2), .unset, .unset, .unset, .unset, .unset, .unset] [(.int (own_F1 p0))])
  refine own_st (f' := (mkF m 5 #[.val (.int p0), .val (.int p1), .val (.int p2), .unset, .unset, .unset, .unset, .unset, .unset] [(.int p0), (.int (own_F1 p0))])) (fun t k => XS.iloadN X7.her hx rfl (hb hby at_4) rfl k) ?_
  refine own_callSP (y := (⟨"com/example/bidwright/bidwright/game/FlightTrendIsUpdateTimePinLaw", "expected", "(I)Z"⟩ : MethodName)) (W := 1) [(.int p0)] X7 hx hZ hown (own_w4 hw) (own_w5 hw) (own_w6 hw) (own_w7 hw) (by decide) (own_c2 l Z a0 hw h0 n0 Z0 p0) (by decide) (by decide) (by decide) (by decide) (by rw [hml]; rfl) own_pd0 rfl rfl (Nat.le_of_eq rfl) (hb hby at_5) ?_
  intro T8 X8
  show own_G p e below _ T8 (mkF m 8 #[.val (.int p0), .val (.int p1), .val (.int p2), .unset, .unset, .unset, .unset, .unset, .unset] [(.int (own_F2 p0)), (.int (own_F1 p0))])
  by_cases hc9 : (own_F1 p0) = (own_F2 p0)
  · refine own_st (f' := (mkF m 11 #[.val (.int p0), .val (.int p1), .val (.int p2), .unset, .unset, .unset, .unset, .unset, .unset] [])) (fun t k => XS.icmpNo X8.her hx rfl (hb hby at_8) rfl (teq hc9).2 k) ?_
    refine own_st (f' := (mkF m 12 #[.val (.int p0), .val (.int p1), .val (.int p2), .unset, .unset, .unset, .unset, .unset, .unset] [(.int (1 : Int32))])) (fun t k => XS.iconst X8.her hx rfl (hb hby at_11) k) ?_
    refine own_st (f' := (mkF m 16 #[.val (.int p0), .val (.int p1), .val (.int p2), .unset, .unset, .unset, .unset, .unset, .unset] [(.int (1 : Int32))])) (fun t k => XS.goto X8.her hx rfl (pc0 := 12) (pc' := 16) rfl (hb hby at_12) (by decide) (by decide) k) ?_
    refine own_st (f' := (mkF m 17 #[.val (.int p0), .val (.int p1), .val (.int p2), .val (.int (1 : Int32)), .unset, .unset, .unset, .unset, .unset] [])) (fun t k => XS.istoreN X8.her hx rfl (hb hby at_16) rfl (l' := #[.val (.int p0), .val (.int p1), .val (.int p2), .val (.int (1 : Int32)), .unset, .unset, .unset, .unset, .unset]) rfl k) ?_
    refine own_st (f' := (mkF m 18 #[.val (.int p0), .val (.int p1), .val (.int p2), .val (.int (1 : Int32)), .unset, .unset, .unset, .unset, .unset] [(.int p1)])) (fun t k => XS.iloadN X8.her hx rfl (hb hby at_17) rfl k) ?_
    refine own_ldcI X8 hx hZ hown (own_w8 hw) (hb hby at_18) ?_
    refine own_st (f' := (mkF m 21 #[.val (.int p0), .val (.int p1), .val (.int p2), .val (.int (1 : Int32)), .unset, .unset, .unset, .unset, .unset] [(.int (p1 &&& (2147483647 : Int32)))])) (fun t k => XS.iand X8.her hx rfl (hb hby at_20) rfl k) ?_
    refine own_st (f' := (mkF m 23 #[.val (.int p0), .val (.int p1), .val (.int p2), .val (.int (1 : Int32)), .unset, .unset, .unset, .unset, .unset] [(.int (60 : Int32)), (.int (p1 &&& (2147483647 : Int32)))])) (fun t k => XS.bipush X8.her hx rfl (hb hby at_21) k) ?_
    refine own_irem X8 hx (hb hby at_23) (by decide) ?_
    refine own_st (f' := (mkF m 25 #[.val (.int p0), .val (.int p1), .val (.int p2), .val (.int (1 : Int32)), .unset, .unset, .unset, .unset, .unset] [(.int (3 : Int32)), (.int ((p1 &&& (2147483647 : Int32)) % (60 : Int32)))])) (fun t k => XS.iconst X8.her hx rfl (hb hby at_24) k) ?_
    refine own_st (f' := (mkF m 26 #[.val (.int p0), .val (.int p1), .val (.int p2), .val (.int (1 : Int32)), .unset, .unset, .unset, .unset, .unset] [(.int (((p1 &&& (2147483647 : Int32)) % (60 : Int32)) - (3 : Int32)))])) (fun t k => XS.isub X8.her hx rfl (hb hby at_25) rfl k) ?_
    refine own_st (f' := (mkF m 28 #[.val (.int p0), .val (.int p1), .val (.int p2), .val (.int (1 : Int32)), .val (.int (own_t0_26 p0 p1 p2)), .unset, .unset, .unset, .unset] [])) (fun t k => XS.istore X8.her hx rfl (hb hby at_26) rfl (l' := #[.val (.int p0), .val (.int p1), .val (.int p2), .val (.int (1 : Int32)), .val (.int (own_t0_26 p0 p1 p2)), .unset, .unset, .unset, .unset]) rfl k) ?_
    refine own_st (f' := (mkF m 29 #[.val (.int p0), .val (.int p1), .val (.int p2), .val (.int (1 : Int32)), .val (.int (own_t0_26 p0 p1 p2)), .unset, .unset, .unset, .unset] [(.int p2)])) (fun t k => XS.iloadN X8.her hx rfl (hb hby at_28) rfl k) ?_
    refine own_ldcI X8 hx hZ hown (own_w8 hw) (hb hby at_29) ?_
    refine own_st (f' := (mkF m 32 #[.val (.int p0), .val (.int p1), .val (.int p2), .val (.int (1 : Int32)), .val (.int (own_t0_26 p0 p1 p2)), .unset, .unset, .unset, .unset] [(.int (p2 &&& (2147483647 : Int32)))])) (fun t k => XS.iand X8.her hx rfl (hb hby at_31) rfl k) ?_
    refine own_st (f' := (mkF m 33 #[.val (.int p0), .val (.int p1), .val (.int p2), .val (.int (1 : Int32)), .val (.int (own_t0_26 p0 p1 p2)), .unset, .unset, .unset, .unset] [(.int (3 : Int32)), (.int (p2 &&& (2147483647 : Int32)))])) (fun t k => XS.iconst X8.her hx rfl (hb hby at_32) k) ?_
    refine own_irem X8 hx (hb hby at_33) (by decide) ?_
    refine own_st (f' := (mkF m 35 #[.val (.int p0), .val (.int p1), .val (.int p2), .val (.int (1 : Int32)), .val (.int (own_t0_26 p0 p1 p2)), .unset, .unset, .unset, .unset] [(.int (1 : Int32)), (.int ((p2 &&& (2147483647 : Int32)) % (3 : Int32)))])) (fun t k => XS.iconst X8.her hx rfl (hb hby at_34) k) ?_
    refine own_st (f' := (mkF m 36 #[.val (.int p0), .val (.int p1), .val (.int p2), .val (.int (1 : Int32)), .val (.int (own_t0_26 p0 p1 p2)), .unset, .unset, .unset, .unset] [(.int (((p2 &&& (2147483647 : Int32)) % (3 : Int32)) - (1 : Int32)))])) (fun t k => XS.isub X8.her hx rfl (hb hby at_35) rfl k) ?_
    refine own_st (f' := (mkF m 38 #[.val (.int p0), .val (.int p1), .val (.int p2), .val (.int (1 : Int32)), .val (.int (own_t0_26 p0 p1 p2)), .val (.int (own_t0_36 p0 p1 p2)), .unset, .unset, .unset] [])) (fun t k => XS.istore X8.her hx rfl (hb hby at_36) rfl (l' := #[.val (.int p0), .val (.int p1), .val (.int p2), .val (.int (1 : Int32)), .val (.int (own_t0_26 p0 p1 p2)), .val (.int (own_t0_36 p0 p1 p2)), .unset, .unset, .unset]) rfl k) ?_
    refine own_st (f' := (mkF m 40 #[.val (.int p0), .val (.int p1), .val (.int p2), .val (.int (1 : Int32)), .val (.int (own_t0_26 p0 p1 p2)), .val (.int (own_t0_36 p0 p1 p2)), .unset, .unset, .unset] [(.int (own_t0_26 p0 p1 p2))])) (fun t k => XS.iload X8.her hx rfl (hb hby at_38) rfl k) ?_
    refine own_st (f' := (mkF m 42 #[.val (.int p0), .val (.int p1), .val (.int p2), .val (.int (1 : Int32)), .val (.int (own_t0_26 p0 p1 p2)), .val (.int (own_t0_36 p0 p1 p2)), .unset, .unset, .unset] [(.int (10 : Int32)), (.int (own_t0_26 p0 p1 p2))])) (fun t k => XS.bipush X8.her hx rfl (hb hby at_40) k) ?_
    refine own_st (f' := (mkF m 43 #[.val (.int p0), .val (.int p1), .val (.int p2), .val (.int (1 : Int32)), .val (.int (own_t0_26 p0 p1 p2)), .val (.int (own_t0_36 p0 p1 p2)), .unset, .unset, .unset] [(.int ((own_t0_26 p0 p1 p2) * (10 : Int32)))])) (fun t k => XS.imul X8.her hx rfl (hb hby at_42) rfl k) ?_
    refine own_st (f' := (mkF m 45 #[.val (.int p0), .val (.int p1), .val (.int p2), .val (.int (1 : Int32)), .val (.int (own_t0_26 p0 p1 p2)), .val (.int (own_t0_36 p0 p1 p2)), .unset, .unset, .unset] [(.int (own_t0_36 p0 p1 p2)), (.int ((own_t0_26 p0 p1 p2) * (10 : Int32)))])) (fun t k => XS.iload X8.her hx rfl (hb hby at_43) rfl k) ?_
    refine own_st (f' := (mkF m 46 #[.val (.int p0), .val (.int p1), .val (.int p2), .val (.int (1 : Int32)), .val (.int (own_t0_26 p0 p1 p2)), .val (.int (own_t0_36 p0 p1 p2)), .unset, .unset, .unset] [(.int (((own_t0_26 p0 p1 p2) * (10 : Int32)) + (own_t0_36 p0 p1 p2)))])) (fun t k => XS.iadd X8.her hx rfl (hb hby at_45) rfl k) ?_
    refine own_st (f' := (mkF m 48 #[.val (.int p0), .val (.int p1), .val (.int p2), .val (.int (1 : Int32)), .val (.int (own_t0_26 p0 p1 p2)), .val (.int (own_t0_36 p0 p1 p2)), .val (.int (own_t0_46 p0 p1 p2)), .unset, .unset] [])) (fun t k => XS.istore X8.her hx rfl (hb hby at_46) rfl (l' := #[.val (.int p0), .val (.int p1), .val (.int p2), .val (.int (1 : Int32)), .val (.int (own_t0_26 p0 p1 p2)), .val (.int (own_t0_36 p0 p1 p2)), .val (.int (own_t0_46 p0 p1 p2)), .unset, .unset]) rfl k) ?_
    refine own_st (f' := (mkF m 50 #[.val (.int p0), .val (.int p1), .val (.int p2), .val (.int (1 : Int32)), .val (.int (own_t0_26 p0 p1 p2)), .val (.int (own_t0_36 p0 p1 p2)), .val (.int (own_t0_46 p0 p1 p2)), .unset, .unset] [(.int (own_t0_36 p0 p1 p2))])) (fun t k => XS.iload X8.her hx rfl (hb hby at_48) rfl k) ?_
    by_cases hc10 : (own_t0_36 p0 p1 p2) = (0 : Int32)
    · refine own_st (f' := (mkF m 53 #[.val (.int p0), .val (.int p1), .val (.int p2), .val (.int (1 : Int32)), .val (.int (own_t0_26 p0 p1 p2)), .val (.int (own_t0_36 p0 p1 p2)), .val (.int (own_t0_46 p0 p1 p2)), .unset, .unset] [])) (fun t k => XS.ifNo X8.her hx rfl (hb hby at_50) rfl ((if0 _ _).trans (teq hc10).2) k) ?_
      refine own_st (f' := (mkF m 55 #[.val (.int p0), .val (.int p1), .val (.int p2), .val (.int (1 : Int32)), .val (.int (own_t0_26 p0 p1 p2)), .val (.int (own_t0_36 p0 p1 p2)), .val (.int (own_t0_46 p0 p1 p2)), .unset, .unset] [(.int (own_t0_26 p0 p1 p2))])) (fun t k => XS.iload X8.her hx rfl (hb hby at_53) rfl k) ?_
      refine own_st (f' := (mkF m 56 #[.val (.int p0), .val (.int p1), .val (.int p2), .val (.int (1 : Int32)), .val (.int (own_t0_26 p0 p1 p2)), .val (.int (own_t0_36 p0 p1 p2)), .val (.int (own_t0_46 p0 p1 p2)), .unset, .unset] [(.int (1 : Int32)), (.int (own_t0_26 p0 p1 p2))])) (fun t k => XS.iconst X8.her hx rfl (hb hby at_55) k) ?_
      by_cases hc11 : (own_t0_26 p0 p1 p2) < (1 : Int32)
      · refine own_st (f' := (mkF m 70 #[.val (.int p0), .val (.int p1), .val (.int p2), .val (.int (1 : Int32)), .val (.int (own_t0_26 p0 p1 p2)), .val (.int (own_t0_36 p0 p1 p2)), .val (.int (own_t0_46 p0 p1 p2)), .unset, .unset] [])) (fun t k => XS.icmpYes X8.her hx rfl (pc0 := 56) (pc' := 70) rfl (hb hby at_56) rfl (tlt hc11).1 (by decide) (by decide) k) ?_
        refine own_st (f' := (mkF m 71 #[.val (.int p0), .val (.int p1), .val (.int p2), .val (.int (1 : Int32)), .val (.int (own_t0_26 p0 p1 p2)), .val (.int (own_t0_36 p0 p1 p2)), .val (.int (own_t0_46 p0 p1 p2)), .unset, .unset] [(.int (0 : Int32))])) (fun t k => XS.iconst X8.her hx rfl (hb hby at_70) k) ?_
        refine own_st (f' := (mkF m 73 #[.val (.int p0), .val (.int p1), .val (.int p2), .val (.int (1 : Int32)), .val (.int (own_t0_26 p0 p1 p2)), .val (.int (own_t0_36 p0 p1 p2)), .val (.int (own_t0_46 p0 p1 p2)), .val (.int (0 : Int32)), .unset] [])) (fun t k => XS.istore X8.her hx rfl (hb hby at_71) rfl (l' := #[.val (.int p0), .val (.int p1), .val (.int p2), .val (.int (1 : Int32)), .val (.int (own_t0_26 p0 p1 p2)), .val (.int (own_t0_36 p0 p1 p2)), .val (.int (own_t0_46 p0 p1 p2)), .val (.int (0 : Int32)), .unset]) rfl k) ?_
        refine own_st (f' := (mkF m 75 #[.val (.int p0), .val (.int p1), .val (.int p2), .val (.int (1 : Int32)), .val (.int (own_t0_26 p0 p1 p2)), .val (.int (own_t0_36 p0 p1 p2)), .val (.int (own_t0_46 p0 p1 p2)), .val (.int (0 : Int32)), .unset] [(.int (own_t0_46 p0 p1 p2))])) (fun t k => XS.iload X8.her hx rfl (hb hby at_73) rfl k) ?_
        refine own_callSP (y := (⟨"com/example/bidwright/bidwright/game/FlightTrend", "isUpdateTime", "(I)Z"⟩ : MethodName)) (W := 0) [(.int (own_t0_46 p0 p1 p2))] X8 hx hZ hown (own_w0 hw) (own_w1 hw) (own_w2 hw) (own_w3 hw) (by decide) (own_c1 l Z a0 hw h0 n0 Z0 (own_t0_46 p0 p1 p2)) (by decide) (by decide) (by decide) (by decide) (by rw [hml]; rfl) own_pd0 rfl rfl (Nat.le_of_eq rfl) (hb hby at_75) ?_
        intro T12 X12
        show own_G p e below _ T12 (mkF m 78 #[.val (.int p0), .val (.int p1), .val (.int p2), .val (.int (1 : Int32)), .val (.int (own_t0_26 p0 p1 p2)), .val (.int (own_t0_36 p0 p1 p2)), .val (.int (own_t0_46 p0 p1 p2)), .val (.int (0 : Int32)), .unset] [(.int (own_F1 (own_t0_46 p0 p1 p2)))])
        refine own_st (f' := (mkF m 80 #[.val (.int p0), .val (.int p1), .val (.int p2), .val (.int (1 : Int32)), .val (.int (own_t0_26 p0 p1 p2)), .val (.int (own_t0_36 p0 p1 p2)), .val (.int (own_t0_46 p0 p1 p2)), .val (.int (0 : Int32)), .unset] [(.int (0 : Int32)), (.int (own_F1 (own_t0_46 p0 p1 p2)))])) (fun t k => XS.iload X12.her hx rfl (hb hby at_78) rfl k) ?_
        by_cases hc13 : (own_F1 (own_t0_46 p0 p1 p2)) = (0 : Int32)
        · refine own_st (f' := (mkF m 83 #[.val (.int p0), .val (.int p1), .val (.int p2), .val (.int (1 : Int32)), .val (.int (own_t0_26 p0 p1 p2)), .val (.int (own_t0_36 p0 p1 p2)), .val (.int (own_t0_46 p0 p1 p2)), .val (.int (0 : Int32)), .unset] [])) (fun t k => XS.icmpNo X12.her hx rfl (hb hby at_80) rfl (teq hc13).2 k) ?_
          refine own_st (f' := (mkF m 84 #[.val (.int p0), .val (.int p1), .val (.int p2), .val (.int (1 : Int32)), .val (.int (own_t0_26 p0 p1 p2)), .val (.int (own_t0_36 p0 p1 p2)), .val (.int (own_t0_46 p0 p1 p2)), .val (.int (0 : Int32)), .unset] [(.int (1 : Int32))])) (fun t k => XS.iconst X12.her hx rfl (hb hby at_83) k) ?_
          refine own_st (f' := (mkF m 88 #[.val (.int p0), .val (.int p1), .val (.int p2), .val (.int (1 : Int32)), .val (.int (own_t0_26 p0 p1 p2)), .val (.int (own_t0_36 p0 p1 p2)), .val (.int (own_t0_46 p0 p1 p2)), .val (.int (0 : Int32)), .unset] [(.int (1 : Int32))])) (fun t k => XS.goto X12.her hx rfl (pc0 := 84) (pc' := 88) rfl (hb hby at_84) (by decide) (by decide) k) ?_
          refine own_st (f' := (mkF m 90 #[.val (.int p0), .val (.int p1), .val (.int p2), .val (.int (1 : Int32)), .val (.int (own_t0_26 p0 p1 p2)), .val (.int (own_t0_36 p0 p1 p2)), .val (.int (own_t0_46 p0 p1 p2)), .val (.int (0 : Int32)), .val (.int (1 : Int32))] [])) (fun t k => XS.istore X12.her hx rfl (hb hby at_88) rfl (l' := #[.val (.int p0), .val (.int p1), .val (.int p2), .val (.int (1 : Int32)), .val (.int (own_t0_26 p0 p1 p2)), .val (.int (own_t0_36 p0 p1 p2)), .val (.int (own_t0_46 p0 p1 p2)), .val (.int (0 : Int32)), .val (.int (1 : Int32))]) rfl k) ?_
          refine own_st (f' := (mkF m 91 #[.val (.int p0), .val (.int p1), .val (.int p2), .val (.int (1 : Int32)), .val (.int (own_t0_26 p0 p1 p2)), .val (.int (own_t0_36 p0 p1 p2)), .val (.int (own_t0_46 p0 p1 p2)), .val (.int (0 : Int32)), .val (.int (1 : Int32))] [(.int (1 : Int32))])) (fun t k => XS.iloadN X12.her hx rfl (hb hby at_90) rfl k) ?_
          refine own_st (f' := (mkF m 94 #[.val (.int p0), .val (.int p1), .val (.int p2), .val (.int (1 : Int32)), .val (.int (own_t0_26 p0 p1 p2)), .val (.int (own_t0_36 p0 p1 p2)), .val (.int (own_t0_46 p0 p1 p2)), .val (.int (0 : Int32)), .val (.int (1 : Int32))] [])) (fun t k => XS.ifNo X12.her hx rfl (hb hby at_91) rfl ((if0 _ _).trans (feq (by decide : ¬ ((1 : Int32) = (0 : Int32)))).1) k) ?_
          refine own_st (f' := (mkF m 96 #[.val (.int p0), .val (.int p1), .val (.int p2), .val (.int (1 : Int32)), .val (.int (own_t0_26 p0 p1 p2)), .val (.int (own_t0_36 p0 p1 p2)), .val (.int (own_t0_46 p0 p1 p2)), .val (.int (0 : Int32)), .val (.int (1 : Int32))] [(.int (1 : Int32))])) (fun t k => XS.iload X12.her hx rfl (hb hby at_94) rfl k) ?_
          refine own_st (f' := (mkF m 99 #[.val (.int p0), .val (.int p1), .val (.int p2), .val (.int (1 : Int32)), .val (.int (own_t0_26 p0 p1 p2)), .val (.int (own_t0_36 p0 p1 p2)), .val (.int (own_t0_46 p0 p1 p2)), .val (.int (0 : Int32)), .val (.int (1 : Int32))] [])) (fun t k => XS.ifNo X12.her hx rfl (hb hby at_96) rfl ((if0 _ _).trans (feq (by decide : ¬ ((1 : Int32) = (0 : Int32)))).1) k) ?_
          refine own_st (f' := (mkF m 100 #[.val (.int p0), .val (.int p1), .val (.int p2), .val (.int (1 : Int32)), .val (.int (own_t0_26 p0 p1 p2)), .val (.int (own_t0_36 p0 p1 p2)), .val (.int (own_t0_46 p0 p1 p2)), .val (.int (0 : Int32)), .val (.int (1 : Int32))] [(.int (1 : Int32))])) (fun t k => XS.iconst X12.her hx rfl (hb hby at_99) k) ?_
          refine own_st (f' := (mkF m 104 #[.val (.int p0), .val (.int p1), .val (.int p2), .val (.int (1 : Int32)), .val (.int (own_t0_26 p0 p1 p2)), .val (.int (own_t0_36 p0 p1 p2)), .val (.int (own_t0_46 p0 p1 p2)), .val (.int (0 : Int32)), .val (.int (1 : Int32))] [(.int (1 : Int32))])) (fun t k => XS.goto X12.her hx rfl (pc0 := 100) (pc' := 104) rfl (hb hby at_100) (by decide) (by decide) k) ?_
          refine own_retN (t := .boolean) X12 hx hret hlk (by simp) (hb hby at_104) (by first | decide | omega) (by first | decide | omega) ?_
          exact congrArg (fun q => some (Value.int q)) (by unfold own_F0; rw [if_pos hc9, if_pos hc10, if_pos hc11, if_pos hc13]; first | done | exact by decide)
        · refine own_st (f' := (mkF m 87 #[.val (.int p0), .val (.int p1), .val (.int p2), .val (.int (1 : Int32)), .val (.int (own_t0_26 p0 p1 p2)), .val (.int (own_t0_36 p0 p1 p2)), .val (.int (own_t0_46 p0 p1 p2)), .val (.int (0 : Int32)), .unset] [])) (fun t k => XS.icmpYes X12.her hx rfl (pc0 := 80) (pc' := 87) rfl (hb hby at_80) rfl (feq hc13).2 (by decide) (by decide) k) ?_
          refine own_st (f' := (mkF m 88 #[.val (.int p0), .val (.int p1), .val (.int p2), .val (.int (1 : Int32)), .val (.int (own_t0_26 p0 p1 p2)), .val (.int (own_t0_36 p0 p1 p2)), .val (.int (own_t0_46 p0 p1 p2)), .val (.int (0 : Int32)), .unset] [(.int (0 : Int32))])) (fun t k => XS.iconst X12.her hx rfl (hb hby at_87) k) ?_
          refine own_st (f' := (mkF m 90 #[.val (.int p0), .val (.int p1), .val (.int p2), .val (.int (1 : Int32)), .val (.int (own_t0_26 p0 p1 p2)), .val (.int (own_t0_36 p0 p1 p2)), .val (.int (own_t0_46 p0 p1 p2)), .val (.int (0 : Int32)), .val (.int (0 : Int32))] [])) (fun t k => XS.istore X12.her hx rfl (hb hby at_88) rfl (l' := #[.val (.int p0), .val (.int p1), .val (.int p2), .val (.int (1 : Int32)), .val (.int (own_t0_26 p0 p1 p2)), .val (.int (own_t0_36 p0 p1 p2)), .val (.int (own_t0_46 p0 p1 p2)), .val (.int (0 : Int32)), .val (.int (0 : Int32))]) rfl k) ?_
          refine own_st (f' := (mkF m 91 #[.val (.int p0), .val (.int p1), .val (.int p2), .val (.int (1 : Int32)), .val (.int (own_t0_26 p0 p1 p2)), .val (.int (own_t0_36 p0 p1 p2)), .val (.int (own_t0_46 p0 p1 p2)), .val (.int (0 : Int32)), .val (.int (0 : Int32))] [(.int (1 : Int32))])) (fun t k => XS.iloadN X12.her hx rfl (hb hby at_90) rfl k) ?_
          refine own_st (f' := (mkF m 94 #[.val (.int p0), .val (.int p1), .val (.int p2), .val (.int (1 : Int32)), .val (.int (own_t0_26 p0 p1 p2)), .val (.int (own_t0_36 p0 p1 p2)), .val (.int (own_t0_46 p0 p1 p2)), .val (.int (0 : Int32)), .val (.int (0 : Int32))] [])) (fun t k => XS.ifNo X12.her hx rfl (hb hby at_91) rfl ((if0 _ _).trans (feq (by decide : ¬ ((1 : Int32) = (0 : Int32)))).1) k) ?_
          refine own_st (f' := (mkF m 96 #[.val (.int p0), .val (.int p1), .val (.int p2), .val (.int (1 : Int32)), .val (.int (own_t0_26 p0 p1 p2)), .val (.int (own_t0_36 p0 p1 p2)), .val (.int (own_t0_46 p0 p1 p2)), .val (.int (0 : Int32)), .val (.int (0 : Int32))] [(.int (0 : Int32))])) (fun t k => XS.iload X12.her hx rfl (hb hby at_94) rfl k) ?_
          refine own_st (f' := (mkF m 103 #[.val (.int p0), .val (.int p1), .val (.int p2), .val (.int (1 : Int32)), .val (.int (own_t0_26 p0 p1 p2)), .val (.int (own_t0_36 p0 p1 p2)), .val (.int (own_t0_46 p0 p1 p2)), .val (.int (0 : Int32)), .val (.int (0 : Int32))] [])) (fun t k => XS.ifYes X12.her hx rfl (pc0 := 96) (pc' := 103) rfl (hb hby at_96) rfl ((if0 _ _).trans (teq (rfl : (0 : Int32) = (0 : Int32))).1) (by decide) (by decide) k) ?_
          refine own_st (f' := (mkF m 104 #[.val (.int p0), .val (.int p1), .val (.int p2), .val (.int (1 : Int32)), .val (.int (own_t0_26 p0 p1 p2)), .val (.int (own_t0_36 p0 p1 p2)), .val (.int (own_t0_46 p0 p1 p2)), .val (.int (0 : Int32)), .val (.int (0 : Int32))] [(.int (0 : Int32))])) (fun t k => XS.iconst X12.her hx rfl (hb hby at_103) k) ?_
          refine own_retN (t := .boolean) X12 hx hret hlk (by simp) (hb hby at_104) (by first | decide | omega) (by first | decide | omega) ?_
          exact congrArg (fun q => some (Value.int q)) (by unfold own_F0; rw [if_pos hc9, if_pos hc10, if_pos hc11, if_neg hc13]; first | done | exact by decide)
      · refine own_st (f' := (mkF m 59 #[.val (.int p0), .val (.int p1), .val (.int p2), .val (.int (1 : Int32)), .val (.int (own_t0_26 p0 p1 p2)), .val (.int (own_t0_36 p0 p1 p2)), .val (.int (own_t0_46 p0 p1 p2)), .unset, .unset] [])) (fun t k => XS.icmpNo X8.her hx rfl (hb hby at_56) rfl (flt hc11).1 k) ?_
        refine own_st (f' := (mkF m 61 #[.val (.int p0), .val (.int p1), .val (.int p2), .val (.int (1 : Int32)), .val (.int (own_t0_26 p0 p1 p2)), .val (.int (own_t0_36 p0 p1 p2)), .val (.int (own_t0_46 p0 p1 p2)), .unset, .unset] [(.int (own_t0_26 p0 p1 p2))])) (fun t k => XS.iload X8.her hx rfl (hb hby at_59) rfl k) ?_
        refine own_st (f' := (mkF m 63 #[.val (.int p0), .val (.int p1), .val (.int p2), .val (.int (1 : Int32)), .val (.int (own_t0_26 p0 p1 p2)), .val (.int (own_t0_36 p0 p1 p2)), .val (.int (own_t0_46 p0 p1 p2)), .unset, .unset] [(.int (53 : Int32)), (.int (own_t0_26 p0 p1 p2))])) (fun t k => XS.bipush X8.her hx rfl (hb hby at_61) k) ?_
        by_cases hc14 : (53 : Int32) < (own_t0_26 p0 p1 p2)
        · refine own_st (f' := (mkF m 70 #[.val (.int p0), .val (.int p1), .val (.int p2), .val (.int (1 : Int32)), .val (.int (own_t0_26 p0 p1 p2)), .val (.int (own_t0_36 p0 p1 p2)), .val (.int (own_t0_46 p0 p1 p2)), .unset, .unset] [])) (fun t k => XS.icmpYes X8.her hx rfl (pc0 := 63) (pc' := 70) rfl (hb hby at_63) rfl (tlt hc14).2.2.1 (by decide) (by decide) k) ?_
          refine own_st (f' := (mkF m 71 #[.val (.int p0), .val (.int p1), .val (.int p2), .val (.int (1 : Int32)), .val (.int (own_t0_26 p0 p1 p2)), .val (.int (own_t0_36 p0 p1 p2)), .val (.int (own_t0_46 p0 p1 p2)), .unset, .unset] [(.int (0 : Int32))])) (fun t k => XS.iconst X8.her hx rfl (hb hby at_70) k) ?_
          refine own_st (f' := (mkF m 73 #[.val (.int p0), .val (.int p1), .val (.int p2), .val (.int (1 : Int32)), .val (.int (own_t0_26 p0 p1 p2)), .val (.int (own_t0_36 p0 p1 p2)), .val (.int (own_t0_46 p0 p1 p2)), .val (.int (0 : Int32)), .unset] [])) (fun t k => XS.istore X8.her hx rfl (hb hby at_71) rfl (l' := #[.val (.int p0), .val (.int p1), .val (.int p2), .val (.int (1 : Int32)), .val (.int (own_t0_26 p0 p1 p2)), .val (.int (own_t0_36 p0 p1 p2)), .val (.int (own_t0_46 p0 p1 p2)), .val (.int (0 : Int32)), .unset]) rfl k) ?_
          refine own_st (f' := (mkF m 75 #[.val (.int p0), .val (.int p1), .val (.int p2), .val (.int (1 : Int32)), .val (.int (own_t0_26 p0 p1 p2)), .val (.int (own_t0_36 p0 p1 p2)), .val (.int (own_t0_46 p0 p1 p2)), .val (.int (0 : Int32)), .unset] [(.int (own_t0_46 p0 p1 p2))])) (fun t k => XS.iload X8.her hx rfl (hb hby at_73) rfl k) ?_
          refine own_callSP (y := (⟨"com/example/bidwright/bidwright/game/FlightTrend", "isUpdateTime", "(I)Z"⟩ : MethodName)) (W := 0) [(.int (own_t0_46 p0 p1 p2))] X8 hx hZ hown (own_w0 hw) (own_w1 hw) (own_w2 hw) (own_w3 hw) (by decide) (own_c1 l Z a0 hw h0 n0 Z0 (own_t0_46 p0 p1 p2)) (by decide) (by decide) (by decide) (by decide) (by rw [hml]; rfl) own_pd0 rfl rfl (Nat.le_of_eq rfl) (hb hby at_75) ?_
          intro T15 X15
          show own_G p e below _ T15 (mkF m 78 #[.val (.int p0), .val (.int p1), .val (.int p2), .val (.int (1 : Int32)), .val (.int (own_t0_26 p0 p1 p2)), .val (.int (own_t0_36 p0 p1 p2)), .val (.int (own_t0_46 p0 p1 p2)), .val (.int (0 : Int32)), .unset] [(.int (own_F1 (own_t0_46 p0 p1 p2)))])
          refine own_st (f' := (mkF m 80 #[.val (.int p0), .val (.int p1), .val (.int p2), .val (.int (1 : Int32)), .val (.int (own_t0_26 p0 p1 p2)), .val (.int (own_t0_36 p0 p1 p2)), .val (.int (own_t0_46 p0 p1 p2)), .val (.int (0 : Int32)), .unset] [(.int (0 : Int32)), (.int (own_F1 (own_t0_46 p0 p1 p2)))])) (fun t k => XS.iload X15.her hx rfl (hb hby at_78) rfl k) ?_
          by_cases hc16 : (own_F1 (own_t0_46 p0 p1 p2)) = (0 : Int32)
          · refine own_st (f' := (mkF m 83 #[.val (.int p0), .val (.int p1), .val (.int p2), .val (.int (1 : Int32)), .val (.int (own_t0_26 p0 p1 p2)), .val (.int (own_t0_36 p0 p1 p2)), .val (.int (own_t0_46 p0 p1 p2)), .val (.int (0 : Int32)), .unset] [])) (fun t k => XS.icmpNo X15.her hx rfl (hb hby at_80) rfl (teq hc16).2 k) ?_
            refine own_st (f' := (mkF m 84 #[.val (.int p0), .val (.int p1), .val (.int p2), .val (.int (1 : Int32)), .val (.int (own_t0_26 p0 p1 p2)), .val (.int (own_t0_36 p0 p1 p2)), .val (.int (own_t0_46 p0 p1 p2)), .val (.int (0 : Int32)), .unset] [(.int (1 : Int32))])) (fun t k => XS.iconst X15.her hx rfl (hb hby at_83) k) ?_
            refine own_st (f' := (mkF m 88 #[.val (.int p0), .val (.int p1), .val (.int p2), .val (.int (1 : Int32)), .val (.int (own_t0_26 p0 p1 p2)), .val (.int (own_t0_36 p0 p1 p2)), .val (.int (own_t0_46 p0 p1 p2)), .val (.int (0 : Int32)), .unset] [(.int (1 : Int32))])) (fun t k => XS.goto X15.her hx rfl (pc0 := 84) (pc' := 88) rfl (hb hby at_84) (by decide) (by decide) k) ?_
            refine own_st (f' := (mkF m 90 #[.val (.int p0), .val (.int p1), .val (.int p2), .val (.int (1 : Int32)), .val (.int (own_t0_26 p0 p1 p2)), .val (.int (own_t0_36 p0 p1 p2)), .val (.int (own_t0_46 p0 p1 p2)), .val (.int (0 : Int32)), .val (.int (1 : Int32))] [])) (fun t k => XS.istore X15.her hx rfl (hb hby at_88) rfl (l' := #[.val (.int p0), .val (.int p1), .val (.int p2), .val (.int (1 : Int32)), .val (.int (own_t0_26 p0 p1 p2)), .val (.int (own_t0_36 p0 p1 p2)), .val (.int (own_t0_46 p0 p1 p2)), .val (.int (0 : Int32)), .val (.int (1 : Int32))]) rfl k) ?_
            refine own_st (f' := (mkF m 91 #[.val (.int p0), .val (.int p1), .val (.int p2), .val (.int (1 : Int32)), .val (.int (own_t0_26 p0 p1 p2)), .val (.int (own_t0_36 p0 p1 p2)), .val (.int (own_t0_46 p0 p1 p2)), .val (.int (0 : Int32)), .val (.int (1 : Int32))] [(.int (1 : Int32))])) (fun t k => XS.iloadN X15.her hx rfl (hb hby at_90) rfl k) ?_
            refine own_st (f' := (mkF m 94 #[.val (.int p0), .val (.int p1), .val (.int p2), .val (.int (1 : Int32)), .val (.int (own_t0_26 p0 p1 p2)), .val (.int (own_t0_36 p0 p1 p2)), .val (.int (own_t0_46 p0 p1 p2)), .val (.int (0 : Int32)), .val (.int (1 : Int32))] [])) (fun t k => XS.ifNo X15.her hx rfl (hb hby at_91) rfl ((if0 _ _).trans (feq (by decide : ¬ ((1 : Int32) = (0 : Int32)))).1) k) ?_
            refine own_st (f' := (mkF m 96 #[.val (.int p0), .val (.int p1), .val (.int p2), .val (.int (1 : Int32)), .val (.int (own_t0_26 p0 p1 p2)), .val (.int (own_t0_36 p0 p1 p2)), .val (.int (own_t0_46 p0 p1 p2)), .val (.int (0 : Int32)), .val (.int (1 : Int32))] [(.int (1 : Int32))])) (fun t k => XS.iload X15.her hx rfl (hb hby at_94) rfl k) ?_
            refine own_st (f' := (mkF m 99 #[.val (.int p0), .val (.int p1), .val (.int p2), .val (.int (1 : Int32)), .val (.int (own_t0_26 p0 p1 p2)), .val (.int (own_t0_36 p0 p1 p2)), .val (.int (own_t0_46 p0 p1 p2)), .val (.int (0 : Int32)), .val (.int (1 : Int32))] [])) (fun t k => XS.ifNo X15.her hx rfl (hb hby at_96) rfl ((if0 _ _).trans (feq (by decide : ¬ ((1 : Int32) = (0 : Int32)))).1) k) ?_
            refine own_st (f' := (mkF m 100 #[.val (.int p0), .val (.int p1), .val (.int p2), .val (.int (1 : Int32)), .val (.int (own_t0_26 p0 p1 p2)), .val (.int (own_t0_36 p0 p1 p2)), .val (.int (own_t0_46 p0 p1 p2)), .val (.int (0 : Int32)), .val (.int (1 : Int32))] [(.int (1 : Int32))])) (fun t k => XS.iconst X15.her hx rfl (hb hby at_99) k) ?_
            refine own_st (f' := (mkF m 104 #[.val (.int p0), .val (.int p1), .val (.int p2), .val (.int (1 : Int32)), .val (.int (own_t0_26 p0 p1 p2)), .val (.int (own_t0_36 p0 p1 p2)), .val (.int (own_t0_46 p0 p1 p2)), .val (.int (0 : Int32)), .val (.int (1 : Int32))] [(.int (1 : Int32))])) (fun t k => XS.goto X15.her hx rfl (pc0 := 100) (pc' := 104) rfl (hb hby at_100) (by decide) (by decide) k) ?_
            refine own_retN (t := .boolean) X15 hx hret hlk (by simp) (hb hby at_104) (by first | decide | omega) (by first | decide | omega) ?_
            exact congrArg (fun q => some (Value.int q)) (by unfold own_F0; rw [if_pos hc9, if_pos hc10, if_neg hc11, if_pos hc14, if_pos hc16]; first | done | exact by decide)
          · refine own_st (f' := (mkF m 87 #[.val (.int p0), .val (.int p1), .val (.int p2), .val (.int (1 : Int32)), .val (.int (own_t0_26 p0 p1 p2)), .val (.int (own_t0_36 p0 p1 p2)), .val (.int (own_t0_46 p0 p1 p2)), .val (.int (0 : Int32)), .unset] [])) (fun t k => XS.icmpYes X15.her hx rfl (pc0 := 80) (pc' := 87) rfl (hb hby at_80) rfl (feq hc16).2 (by decide) (by decide) k) ?_
            refine own_st (f' := (mkF m 88 #[.val (.int p0), .val (.int p1), .val (.int p2), .val (.int (1 : Int32)), .val (.int (own_t0_26 p0 p1 p2)), .val (.int (own_t0_36 p0 p1 p2)), .val (.int (own_t0_46 p0 p1 p2)), .val (.int (0 : Int32)), .unset] [(.int (0 : Int32))])) (fun t k => XS.iconst X15.her hx rfl (hb hby at_87) k) ?_
            refine own_st (f' := (mkF m 90 #[.val (.int p0), .val (.int p1), .val (.int p2), .val (.int (1 : Int32)), .val (.int (own_t0_26 p0 p1 p2)), .val (.int (own_t0_36 p0 p1 p2)), .val (.int (own_t0_46 p0 p1 p2)), .val (.int (0 : Int32)), .val (.int (0 : Int32))] [])) (fun t k => XS.istore X15.her hx rfl (hb hby at_88) rfl (l' := #[.val (.int p0), .val (.int p1), .val (.int p2), .val (.int (1 : Int32)), .val (.int (own_t0_26 p0 p1 p2)), .val (.int (own_t0_36 p0 p1 p2)), .val (.int (own_t0_46 p0 p1 p2)), .val (.int (0 : Int32)), .val (.int (0 : Int32))]) rfl k) ?_
            refine own_st (f' := (mkF m 91 #[.val (.int p0), .val (.int p1), .val (.int p2), .val (.int (1 : Int32)), .val (.int (own_t0_26 p0 p1 p2)), .val (.int (own_t0_36 p0 p1 p2)), .val (.int (own_t0_46 p0 p1 p2)), .val (.int (0 : Int32)), .val (.int (0 : Int32))] [(.int (1 : Int32))])) (fun t k => XS.iloadN X15.her hx rfl (hb hby at_90) rfl k) ?_
            refine own_st (f' := (mkF m 94 #[.val (.int p0), .val (.int p1), .val (.int p2), .val (.int (1 : Int32)), .val (.int (own_t0_26 p0 p1 p2)), .val (.int (own_t0_36 p0 p1 p2)), .val (.int (own_t0_46 p0 p1 p2)), .val (.int (0 : Int32)), .val (.int (0 : Int32))] [])) (fun t k => XS.ifNo X15.her hx rfl (hb hby at_91) rfl ((if0 _ _).trans (feq (by decide : ¬ ((1 : Int32) = (0 : Int32)))).1) k) ?_
            refine own_st (f' := (mkF m 96 #[.val (.int p0), .val (.int p1), .val (.int p2), .val (.int (1 : Int32)), .val (.int (own_t0_26 p0 p1 p2)), .val (.int (own_t0_36 p0 p1 p2)), .val (.int (own_t0_46 p0 p1 p2)), .val (.int (0 : Int32)), .val (.int (0 : Int32))] [(.int (0 : Int32))])) (fun t k => XS.iload X15.her hx rfl (hb hby at_94) rfl k) ?_
            refine own_st (f' := (mkF m 103 #[.val (.int p0), .val (.int p1), .val (.int p2), .val (.int (1 : Int32)), .val (.int (own_t0_26 p0 p1 p2)), .val (.int (own_t0_36 p0 p1 p2)), .val (.int (own_t0_46 p0 p1 p2)), .val (.int (0 : Int32)), .val (.int (0 : Int32))] [])) (fun t k => XS.ifYes X15.her hx rfl (pc0 := 96) (pc' := 103) rfl (hb hby at_96) rfl ((if0 _ _).trans (teq (rfl : (0 : Int32) = (0 : Int32))).1) (by decide) (by decide) k) ?_
            refine own_st (f' := (mkF m 104 #[.val (.int p0), .val (.int p1), .val (.int p2), .val (.int (1 : Int32)), .val (.int (own_t0_26 p0 p1 p2)), .val (.int (own_t0_36 p0 p1 p2)), .val (.int (own_t0_46 p0 p1 p2)), .val (.int (0 : Int32)), .val (.int (0 : Int32))] [(.int (0 : Int32))])) (fun t k => XS.iconst X15.her hx rfl (hb hby at_103) k) ?_
            refine own_retN (t := .boolean) X15 hx hret hlk (by simp) (hb hby at_104) (by first | decide | omega) (by first | decide | omega) ?_
            exact congrArg (fun q => some (Value.int q)) (by unfold own_F0; rw [if_pos hc9, if_pos hc10, if_neg hc11, if_pos hc14, if_neg hc16]; first | done | exact by decide)
        · refine own_st (f' := (mkF m 66 #[.val (.int p0), .val (.int p1), .val (.int p2), .val (.int (1 : Int32)), .val (.int (own_t0_26 p0 p1 p2)), .val (.int (own_t0_36 p0 p1 p2)), .val (.int (own_t0_46 p0 p1 p2)), .unset, .unset] [])) (fun t k => XS.icmpNo X8.her hx rfl (hb hby at_63) rfl (flt hc14).2.2.1 k) ?_
          refine own_st (f' := (mkF m 67 #[.val (.int p0), .val (.int p1), .val (.int p2), .val (.int (1 : Int32)), .val (.int (own_t0_26 p0 p1 p2)), .val (.int (own_t0_36 p0 p1 p2)), .val (.int (own_t0_46 p0 p1 p2)), .unset, .unset] [(.int (1 : Int32))])) (fun t k => XS.iconst X8.her hx rfl (hb hby at_66) k) ?_
          refine own_st (f' := (mkF m 71 #[.val (.int p0), .val (.int p1), .val (.int p2), .val (.int (1 : Int32)), .val (.int (own_t0_26 p0 p1 p2)), .val (.int (own_t0_36 p0 p1 p2)), .val (.int (own_t0_46 p0 p1 p2)), .unset, .unset] [(.int (1 : Int32))])) (fun t k => XS.goto X8.her hx rfl (pc0 := 67) (pc' := 71) rfl (hb hby at_67) (by decide) (by decide) k) ?_
          refine own_st (f' := (mkF m 73 #[.val (.int p0), .val (.int p1), .val (.int p2), .val (.int (1 : Int32)), .val (.int (own_t0_26 p0 p1 p2)), .val (.int (own_t0_36 p0 p1 p2)), .val (.int (own_t0_46 p0 p1 p2)), .val (.int (1 : Int32)), .unset] [])) (fun t k => XS.istore X8.her hx rfl (hb hby at_71) rfl (l' := #[.val (.int p0), .val (.int p1), .val (.int p2), .val (.int (1 : Int32)), .val (.int (own_t0_26 p0 p1 p2)), .val (.int (own_t0_36 p0 p1 p2)), .val (.int (own_t0_46 p0 p1 p2)), .val (.int (1 : Int32)), .unset]) rfl k) ?_
          refine own_st (f' := (mkF m 75 #[.val (.int p0), .val (.int p1), .val (.int p2), .val (.int (1 : Int32)), .val (.int (own_t0_26 p0 p1 p2)), .val (.int (own_t0_36 p0 p1 p2)), .val (.int (own_t0_46 p0 p1 p2)), .val (.int (1 : Int32)), .unset] [(.int (own_t0_46 p0 p1 p2))])) (fun t k => XS.iload X8.her hx rfl (hb hby at_73) rfl k) ?_
          refine own_callSP (y := (⟨"com/example/bidwright/bidwright/game/FlightTrend", "isUpdateTime", "(I)Z"⟩ : MethodName)) (W := 0) [(.int (own_t0_46 p0 p1 p2))] X8 hx hZ hown (own_w0 hw) (own_w1 hw) (own_w2 hw) (own_w3 hw) (by decide) (own_c1 l Z a0 hw h0 n0 Z0 (own_t0_46 p0 p1 p2)) (by decide) (by decide) (by decide) (by decide) (by rw [hml]; rfl) own_pd0 rfl rfl (Nat.le_of_eq rfl) (hb hby at_75) ?_
          intro T17 X17
          show own_G p e below _ T17 (mkF m 78 #[.val (.int p0), .val (.int p1), .val (.int p2), .val (.int (1 : Int32)), .val (.int (own_t0_26 p0 p1 p2)), .val (.int (own_t0_36 p0 p1 p2)), .val (.int (own_t0_46 p0 p1 p2)), .val (.int (1 : Int32)), .unset] [(.int (own_F1 (own_t0_46 p0 p1 p2)))])
          refine own_st (f' := (mkF m 80 #[.val (.int p0), .val (.int p1), .val (.int p2), .val (.int (1 : Int32)), .val (.int (own_t0_26 p0 p1 p2)), .val (.int (own_t0_36 p0 p1 p2)), .val (.int (own_t0_46 p0 p1 p2)), .val (.int (1 : Int32)), .unset] [(.int (1 : Int32)), (.int (own_F1 (own_t0_46 p0 p1 p2)))])) (fun t k => XS.iload X17.her hx rfl (hb hby at_78) rfl k) ?_
          by_cases hc18 : (own_F1 (own_t0_46 p0 p1 p2)) = (1 : Int32)
          · refine own_st (f' := (mkF m 83 #[.val (.int p0), .val (.int p1), .val (.int p2), .val (.int (1 : Int32)), .val (.int (own_t0_26 p0 p1 p2)), .val (.int (own_t0_36 p0 p1 p2)), .val (.int (own_t0_46 p0 p1 p2)), .val (.int (1 : Int32)), .unset] [])) (fun t k => XS.icmpNo X17.her hx rfl (hb hby at_80) rfl (teq hc18).2 k) ?_
            refine own_st (f' := (mkF m 84 #[.val (.int p0), .val (.int p1), .val (.int p2), .val (.int (1 : Int32)), .val (.int (own_t0_26 p0 p1 p2)), .val (.int (own_t0_36 p0 p1 p2)), .val (.int (own_t0_46 p0 p1 p2)), .val (.int (1 : Int32)), .unset] [(.int (1 : Int32))])) (fun t k => XS.iconst X17.her hx rfl (hb hby at_83) k) ?_
            refine own_st (f' := (mkF m 88 #[.val (.int p0), .val (.int p1), .val (.int p2), .val (.int (1 : Int32)), .val (.int (own_t0_26 p0 p1 p2)), .val (.int (own_t0_36 p0 p1 p2)), .val (.int (own_t0_46 p0 p1 p2)), .val (.int (1 : Int32)), .unset] [(.int (1 : Int32))])) (fun t k => XS.goto X17.her hx rfl (pc0 := 84) (pc' := 88) rfl (hb hby at_84) (by decide) (by decide) k) ?_
            refine own_st (f' := (mkF m 90 #[.val (.int p0), .val (.int p1), .val (.int p2), .val (.int (1 : Int32)), .val (.int (own_t0_26 p0 p1 p2)), .val (.int (own_t0_36 p0 p1 p2)), .val (.int (own_t0_46 p0 p1 p2)), .val (.int (1 : Int32)), .val (.int (1 : Int32))] [])) (fun t k => XS.istore X17.her hx rfl (hb hby at_88) rfl (l' := #[.val (.int p0), .val (.int p1), .val (.int p2), .val (.int (1 : Int32)), .val (.int (own_t0_26 p0 p1 p2)), .val (.int (own_t0_36 p0 p1 p2)), .val (.int (own_t0_46 p0 p1 p2)), .val (.int (1 : Int32)), .val (.int (1 : Int32))]) rfl k) ?_
            refine own_st (f' := (mkF m 91 #[.val (.int p0), .val (.int p1), .val (.int p2), .val (.int (1 : Int32)), .val (.int (own_t0_26 p0 p1 p2)), .val (.int (own_t0_36 p0 p1 p2)), .val (.int (own_t0_46 p0 p1 p2)), .val (.int (1 : Int32)), .val (.int (1 : Int32))] [(.int (1 : Int32))])) (fun t k => XS.iloadN X17.her hx rfl (hb hby at_90) rfl k) ?_
            refine own_st (f' := (mkF m 94 #[.val (.int p0), .val (.int p1), .val (.int p2), .val (.int (1 : Int32)), .val (.int (own_t0_26 p0 p1 p2)), .val (.int (own_t0_36 p0 p1 p2)), .val (.int (own_t0_46 p0 p1 p2)), .val (.int (1 : Int32)), .val (.int (1 : Int32))] [])) (fun t k => XS.ifNo X17.her hx rfl (hb hby at_91) rfl ((if0 _ _).trans (feq (by decide : ¬ ((1 : Int32) = (0 : Int32)))).1) k) ?_
            refine own_st (f' := (mkF m 96 #[.val (.int p0), .val (.int p1), .val (.int p2), .val (.int (1 : Int32)), .val (.int (own_t0_26 p0 p1 p2)), .val (.int (own_t0_36 p0 p1 p2)), .val (.int (own_t0_46 p0 p1 p2)), .val (.int (1 : Int32)), .val (.int (1 : Int32))] [(.int (1 : Int32))])) (fun t k => XS.iload X17.her hx rfl (hb hby at_94) rfl k) ?_
            refine own_st (f' := (mkF m 99 #[.val (.int p0), .val (.int p1), .val (.int p2), .val (.int (1 : Int32)), .val (.int (own_t0_26 p0 p1 p2)), .val (.int (own_t0_36 p0 p1 p2)), .val (.int (own_t0_46 p0 p1 p2)), .val (.int (1 : Int32)), .val (.int (1 : Int32))] [])) (fun t k => XS.ifNo X17.her hx rfl (hb hby at_96) rfl ((if0 _ _).trans (feq (by decide : ¬ ((1 : Int32) = (0 : Int32)))).1) k) ?_
            refine own_st (f' := (mkF m 100 #[.val (.int p0), .val (.int p1), .val (.int p2), .val (.int (1 : Int32)), .val (.int (own_t0_26 p0 p1 p2)), .val (.int (own_t0_36 p0 p1 p2)), .val (.int (own_t0_46 p0 p1 p2)), .val (.int (1 : Int32)), .val (.int (1 : Int32))] [(.int (1 : Int32))])) (fun t k => XS.iconst X17.her hx rfl (hb hby at_99) k) ?_
            refine own_st (f' := (mkF m 104 #[.val (.int p0), .val (.int p1), .val (.int p2), .val (.int (1 : Int32)), .val (.int (own_t0_26 p0 p1 p2)), .val (.int (own_t0_36 p0 p1 p2)), .val (.int (own_t0_46 p0 p1 p2)), .val (.int (1 : Int32)), .val (.int (1 : Int32))] [(.int (1 : Int32))])) (fun t k => XS.goto X17.her hx rfl (pc0 := 100) (pc' := 104) rfl (hb hby at_100) (by decide) (by decide) k) ?_
            refine own_retN (t := .boolean) X17 hx hret hlk (by simp) (hb hby at_104) (by first | decide | omega) (by first | decide | omega) ?_
            exact congrArg (fun q => some (Value.int q)) (by unfold own_F0; rw [if_pos hc9, if_pos hc10, if_neg hc11, if_neg hc14, if_pos hc18]; first | done | exact by decide)
          · refine own_st (f' := (mkF m 87 #[.val (.int p0), .val (.int p1), .val (.int p2), .val (.int (1 : Int32)), .val (.int (own_t0_26 p0 p1 p2)), .val (.int (own_t0_36 p0 p1 p2)), .val (.int (own_t0_46 p0 p1 p2)), .val (.int (1 : Int32)), .unset] [])) (fun t k => XS.icmpYes X17.her hx rfl (pc0 := 80) (pc' := 87) rfl (hb hby at_80) rfl (feq hc18).2 (by decide) (by decide) k) ?_
            refine own_st (f' := (mkF m 88 #[.val (.int p0), .val (.int p1), .val (.int p2), .val (.int (1 : Int32)), .val (.int (own_t0_26 p0 p1 p2)), .val (.int (own_t0_36 p0 p1 p2)), .val (.int (own_t0_46 p0 p1 p2)), .val (.int (1 : Int32)), .unset] [(.int (0 : Int32))])) (fun t k => XS.iconst X17.her hx rfl (hb hby at_87) k) ?_
            refine own_st (f' := (mkF m 90 #[.val (.int p0), .val (.int p1), .val (.int p2), .val (.int (1 : Int32)), .val (.int (own_t0_26 p0 p1 p2)), .val (.int (own_t0_36 p0 p1 p2)), .val (.int (own_t0_46 p0 p1 p2)), .val (.int (1 : Int32)), .val (.int (0 : Int32))] [])) (fun t k => XS.istore X17.her hx rfl (hb hby at_88) rfl (l' := #[.val (.int p0), .val (.int p1), .val (.int p2), .val (.int (1 : Int32)), .val (.int (own_t0_26 p0 p1 p2)), .val (.int (own_t0_36 p0 p1 p2)), .val (.int (own_t0_46 p0 p1 p2)), .val (.int (1 : Int32)), .val (.int (0 : Int32))]) rfl k) ?_
            refine own_st (f' := (mkF m 91 #[.val (.int p0), .val (.int p1), .val (.int p2), .val (.int (1 : Int32)), .val (.int (own_t0_26 p0 p1 p2)), .val (.int (own_t0_36 p0 p1 p2)), .val (.int (own_t0_46 p0 p1 p2)), .val (.int (1 : Int32)), .val (.int (0 : Int32))] [(.int (1 : Int32))])) (fun t k => XS.iloadN X17.her hx rfl (hb hby at_90) rfl k) ?_
            refine own_st (f' := (mkF m 94 #[.val (.int p0), .val (.int p1), .val (.int p2), .val (.int (1 : Int32)), .val (.int (own_t0_26 p0 p1 p2)), .val (.int (own_t0_36 p0 p1 p2)), .val (.int (own_t0_46 p0 p1 p2)), .val (.int (1 : Int32)), .val (.int (0 : Int32))] [])) (fun t k => XS.ifNo X17.her hx rfl (hb hby at_91) rfl ((if0 _ _).trans (feq (by decide : ¬ ((1 : Int32) = (0 : Int32)))).1) k) ?_
            refine own_st (f' := (mkF m 96 #[.val (.int p0), .val (.int p1), .val (.int p2), .val (.int (1 : Int32)), .val (.int (own_t0_26 p0 p1 p2)), .val (.int (own_t0_36 p0 p1 p2)), .val (.int (own_t0_46 p0 p1 p2)), .val (.int (1 : Int32)), .val (.int (0 : Int32))] [(.int (0 : Int32))])) (fun t k => XS.iload X17.her hx rfl (hb hby at_94) rfl k) ?_
            refine own_st (f' := (mkF m 103 #[.val (.int p0), .val (.int p1), .val (.int p2), .val (.int (1 : Int32)), .val (.int (own_t0_26 p0 p1 p2)), .val (.int (own_t0_36 p0 p1 p2)), .val (.int (own_t0_46 p0 p1 p2)), .val (.int (1 : Int32)), .val (.int (0 : Int32))] [])) (fun t k => XS.ifYes X17.her hx rfl (pc0 := 96) (pc' := 103) rfl (hb hby at_96) rfl ((if0 _ _).trans (teq (rfl : (0 : Int32) = (0 : Int32))).1) (by decide) (by decide) k) ?_
            refine own_st (f' := (mkF m 104 #[.val (.int p0), .val (.int p1), .val (.int p2), .val (.int (1 : Int32)), .val (.int (own_t0_26 p0 p1 p2)), .val (.int (own_t0_36 p0 p1 p2)), .val (.int (own_t0_46 p0 p1 p2)), .val (.int (1 : Int32)), .val (.int (0 : Int32))] [(.int (0 : Int32))])) (fun t k => XS.iconst X17.her hx rfl (hb hby at_103) k) ?_
            refine own_retN (t := .boolean) X17 hx hret hlk (by simp) (hb hby at_104) (by first | decide | omega) (by first | decide | omega) ?_
            exact congrArg (fun q => some (Value.int q)) (by unfold own_F0; rw [if_pos hc9, if_pos hc10, if_neg hc11, if_neg hc14, if_neg hc18]; first | done | exact by decide)
    · refine own_st (f' := (mkF m 70 #[.val (.int p0), .val (.int p1), .val (.int p2), .val (.int (1 : Int32)), .val (.int (own_t0_26 p0 p1 p2)), .val (.int (own_t0_36 p0 p1 p2)), .val (.int (own_t0_46 p0 p1 p2)), .unset, .unset] [])) (fun t k => XS.ifYes X8.her hx rfl (pc0 := 50) (pc' := 70) rfl (hb hby at_50) rfl ((if0 _ _).trans (feq hc10).2) (by decide) (by decide) k) ?_
      refine own_st (f' := (mkF m 71 #[.val (.int p0), .val (.int p1), .val (.int p2), .val (.int (1 : Int32)), .val (.int (own_t0_26 p0 p1 p2)), .val (.int (own_t0_36 p0 p1 p2)), .val (.int (own_t0_46 p0 p1 p2)), .unset, .unset] [(.int (0 : Int32))])) (fun t k => XS.iconst X8.her hx rfl (hb hby at_70) k) ?_
      refine own_st (f' := (mkF m 73 #[.val (.int p0), .val (.int p1), .val (.int p2), .val (.int (1 : Int32)), .val (.int (own_t0_26 p0 p1 p2)), .val (.int (own_t0_36 p0 p1 p2)), .val (.int (own_t0_46 p0 p1 p2)), .val (.int (0 : Int32)), .unset] [])) (fun t k => XS.istore X8.her hx rfl (hb hby at_71) rfl (l' := #[.val (.int p0), .val (.int p1), .val (.int p2), .val (.int (1 : Int32)), .val (.int (own_t0_26 p0 p1 p2)), .val (.int (own_t0_36 p0 p1 p2)), .val (.int (own_t0_46 p0 p1 p2)), .val (.int (0 : Int32)), .unset]) rfl k) ?_
      refine own_st (f' := (mkF m 75 #[.val (.int p0), .val (.int p1), .val (.int p2), .val (.int (1 : Int32)), .val (.int (own_t0_26 p0 p1 p2)), .val (.int (own_t0_36 p0 p1 p2)), .val (.int (own_t0_46 p0 p1 p2)), .val (.int (0 : Int32)), .unset] [(.int (own_t0_46 p0 p1 p2))])) (fun t k => XS.iload X8.her hx rfl (hb hby at_73) rfl k) ?_
      refine own_callSP (y := (⟨"com/example/bidwright/bidwright/game/FlightTrend", "isUpdateTime", "(I)Z"⟩ : MethodName)) (W := 0) [(.int (own_t0_46 p0 p1 p2))] X8 hx hZ hown (own_w0 hw) (own_w1 hw) (own_w2 hw) (own_w3 hw) (by decide) (own_c1 l Z a0 hw h0 n0 Z0 (own_t0_46 p0 p1 p2)) (by decide) (by decide) (by decide) (by decide) (by rw [hml]; rfl) own_pd0 rfl rfl (Nat.le_of_eq rfl) (hb hby at_75) ?_
      intro T19 X19
      show own_G p e below _ T19 (mkF m 78 #[.val (.int p0), .val (.int p1), .val (.int p2), .val (.int (1 : Int32)), .val (.int (own_t0_26 p0 p1 p2)), .val (.int (own_t0_36 p0 p1 p2)), .val (.int (own_t0_46 p0 p1 p2)), .val (.int (0 : Int32)), .unset] [(.int (own_F1 (own_t0_46 p0 p1 p2)))])
      refine own_st (f' := (mkF m 80 #[.val (.int p0), .val (.int p1), .val (.int p2), .val (.int (1 : Int32)), .val (.int (own_t0_26 p0 p1 p2)), .val (.int (own_t0_36 p0 p1 p2)), .val (.int (own_t0_46 p0 p1 p2)), .val (.int (0 : Int32)), .unset] [(.int (0 : Int32)), (.int (own_F1 (own_t0_46 p0 p1 p2)))])) (fun t k => XS.iload X19.her hx rfl (hb hby at_78) rfl k) ?_
      by_cases hc20 : (own_F1 (own_t0_46 p0 p1 p2)) = (0 : Int32)
      · refine own_st (f' := (mkF m 83 #[.val (.int p0), .val (.int p1), .val (.int p2), .val (.int (1 : Int32)), .val (.int (own_t0_26 p0 p1 p2)), .val (.int (own_t0_36 p0 p1 p2)), .val (.int (own_t0_46 p0 p1 p2)), .val (.int (0 : Int32)), .unset] [])) (fun t k => XS.icmpNo X19.her hx rfl (hb hby at_80) rfl (teq hc20).2 k) ?_
        refine own_st (f' := (mkF m 84 #[.val (.int p0), .val (.int p1), .val (.int p2), .val (.int (1 : Int32)), .val (.int (own_t0_26 p0 p1 p2)), .val (.int (own_t0_36 p0 p1 p2)), .val (.int (own_t0_46 p0 p1 p2)), .val (.int (0 : Int32)), .unset] [(.int (1 : Int32))])) (fun t k => XS.iconst X19.her hx rfl (hb hby at_83) k) ?_
        refine own_st (f' := (mkF m 88 #[.val (.int p0), .val (.int p1), .val (.int p2), .val (.int (1 : Int32)), .val (.int (own_t0_26 p0 p1 p2)), .val (.int (own_t0_36 p0 p1 p2)), .val (.int (own_t0_46 p0 p1 p2)), .val (.int (0 : Int32)), .unset] [(.int (1 : Int32))])) (fun t k => XS.goto X19.her hx rfl (pc0 := 84) (pc' := 88) rfl (hb hby at_84) (by decide) (by decide) k) ?_
        refine own_st (f' := (mkF m 90 #[.val (.int p0), .val (.int p1), .val (.int p2), .val (.int (1 : Int32)), .val (.int (own_t0_26 p0 p1 p2)), .val (.int (own_t0_36 p0 p1 p2)), .val (.int (own_t0_46 p0 p1 p2)), .val (.int (0 : Int32)), .val (.int (1 : Int32))] [])) (fun t k => XS.istore X19.her hx rfl (hb hby at_88) rfl (l' := #[.val (.int p0), .val (.int p1), .val (.int p2), .val (.int (1 : Int32)), .val (.int (own_t0_26 p0 p1 p2)), .val (.int (own_t0_36 p0 p1 p2)), .val (.int (own_t0_46 p0 p1 p2)), .val (.int (0 : Int32)), .val (.int (1 : Int32))]) rfl k) ?_
        refine own_st (f' := (mkF m 91 #[.val (.int p0), .val (.int p1), .val (.int p2), .val (.int (1 : Int32)), .val (.int (own_t0_26 p0 p1 p2)), .val (.int (own_t0_36 p0 p1 p2)), .val (.int (own_t0_46 p0 p1 p2)), .val (.int (0 : Int32)), .val (.int (1 : Int32))] [(.int (1 : Int32))])) (fun t k => XS.iloadN X19.her hx rfl (hb hby at_90) rfl k) ?_
        refine own_st (f' := (mkF m 94 #[.val (.int p0), .val (.int p1), .val (.int p2), .val (.int (1 : Int32)), .val (.int (own_t0_26 p0 p1 p2)), .val (.int (own_t0_36 p0 p1 p2)), .val (.int (own_t0_46 p0 p1 p2)), .val (.int (0 : Int32)), .val (.int (1 : Int32))] [])) (fun t k => XS.ifNo X19.her hx rfl (hb hby at_91) rfl ((if0 _ _).trans (feq (by decide : ¬ ((1 : Int32) = (0 : Int32)))).1) k) ?_
        refine own_st (f' := (mkF m 96 #[.val (.int p0), .val (.int p1), .val (.int p2), .val (.int (1 : Int32)), .val (.int (own_t0_26 p0 p1 p2)), .val (.int (own_t0_36 p0 p1 p2)), .val (.int (own_t0_46 p0 p1 p2)), .val (.int (0 : Int32)), .val (.int (1 : Int32))] [(.int (1 : Int32))])) (fun t k => XS.iload X19.her hx rfl (hb hby at_94) rfl k) ?_
        refine own_st (f' := (mkF m 99 #[.val (.int p0), .val (.int p1), .val (.int p2), .val (.int (1 : Int32)), .val (.int (own_t0_26 p0 p1 p2)), .val (.int (own_t0_36 p0 p1 p2)), .val (.int (own_t0_46 p0 p1 p2)), .val (.int (0 : Int32)), .val (.int (1 : Int32))] [])) (fun t k => XS.ifNo X19.her hx rfl (hb hby at_96) rfl ((if0 _ _).trans (feq (by decide : ¬ ((1 : Int32) = (0 : Int32)))).1) k) ?_
        refine own_st (f' := (mkF m 100 #[.val (.int p0), .val (.int p1), .val (.int p2), .val (.int (1 : Int32)), .val (.int (own_t0_26 p0 p1 p2)), .val (.int (own_t0_36 p0 p1 p2)), .val (.int (own_t0_46 p0 p1 p2)), .val (.int (0 : Int32)), .val (.int (1 : Int32))] [(.int (1 : Int32))])) (fun t k => XS.iconst X19.her hx rfl (hb hby at_99) k) ?_
        refine own_st (f' := (mkF m 104 #[.val (.int p0), .val (.int p1), .val (.int p2), .val (.int (1 : Int32)), .val (.int (own_t0_26 p0 p1 p2)), .val (.int (own_t0_36 p0 p1 p2)), .val (.int (own_t0_46 p0 p1 p2)), .val (.int (0 : Int32)), .val (.int (1 : Int32))] [(.int (1 : Int32))])) (fun t k => XS.goto X19.her hx rfl (pc0 := 100) (pc' := 104) rfl (hb hby at_100) (by decide) (by decide) k) ?_
        refine own_retN (t := .boolean) X19 hx hret hlk (by simp) (hb hby at_104) (by first | decide | omega) (by first | decide | omega) ?_
        exact congrArg (fun q => some (Value.int q)) (by unfold own_F0; rw [if_pos hc9, if_neg hc10, if_pos hc20]; first | done | exact by decide)
      · refine own_st (f' := (mkF m 87 #[.val (.int p0), .val (.int p1), .val (.int p2), .val (.int (1 : Int32)), .val (.int (own_t0_26 p0 p1 p2)), .val (.int (own_t0_36 p0 p1 p2)), .val (.int (own_t0_46 p0 p1 p2)), .val (.int (0 : Int32)), .unset] [])) (fun t k => XS.icmpYes X19.her hx rfl (pc0 := 80) (pc' := 87) rfl (hb hby at_80) rfl (feq hc20).2 (by decide) (by decide) k) ?_
        refine own_st (f' := (mkF m 88 #[.val (.int p0), .val (.int p1), .val (.int p2), .val (.int (1 : Int32)), .val (.int (own_t0_26 p0 p1 p2)), .val (.int (own_t0_36 p0 p1 p2)), .val (.int (own_t0_46 p0 p1 p2)), .val (.int (0 : Int32)), .unset] [(.int (0 : Int32))])) (fun t k => XS.iconst X19.her hx rfl (hb hby at_87) k) ?_
        refine own_st (f' := (mkF m 90 #[.val (.int p0), .val (.int p1), .val (.int p2), .val (.int (1 : Int32)), .val (.int (own_t0_26 p0 p1 p2)), .val (.int (own_t0_36 p0 p1 p2)), .val (.int (own_t0_46 p0 p1 p2)), .val (.int (0 : Int32)), .val (.int (0 : Int32))] [])) (fun t k => XS.istore X19.her hx rfl (hb hby at_88) rfl (l' := #[.val (.int p0), .val (.int p1), .val (.int p2), .val (.int (1 : Int32)), .val (.int (own_t0_26 p0 p1 p2)), .val (.int (own_t0_36 p0 p1 p2)), .val (.int (own_t0_46 p0 p1 p2)), .val (.int (0 : Int32)), .val (.int (0 : Int32))]) rfl k) ?_
        refine own_st (f' := (mkF m 91 #[.val (.int p0), .val (.int p1), .val (.int p2), .val (.int (1 : Int32)), .val (.int (own_t0_26 p0 p1 p2)), .val (.int (own_t0_36 p0 p1 p2)), .val (.int (own_t0_46 p0 p1 p2)), .val (.int (0 : Int32)), .val (.int (0 : Int32))] [(.int (1 : Int32))])) (fun t k => XS.iloadN X19.her hx rfl (hb hby at_90) rfl k) ?_
        refine own_st (f' := (mkF m 94 #[.val (.int p0), .val (.int p1), .val (.int p2), .val (.int (1 : Int32)), .val (.int (own_t0_26 p0 p1 p2)), .val (.int (own_t0_36 p0 p1 p2)), .val (.int (own_t0_46 p0 p1 p2)), .val (.int (0 : Int32)), .val (.int (0 : Int32))] [])) (fun t k => XS.ifNo X19.her hx rfl (hb hby at_91) rfl ((if0 _ _).trans (feq (by decide : ¬ ((1 : Int32) = (0 : Int32)))).1) k) ?_
        refine own_st (f' := (mkF m 96 #[.val (.int p0), .val (.int p1), .val (.int p2), .val (.int (1 : Int32)), .val (.int (own_t0_26 p0 p1 p2)), .val (.int (own_t0_36 p0 p1 p2)), .val (.int (own_t0_46 p0 p1 p2)), .val (.int (0 : Int32)), .val (.int (0 : Int32))] [(.int (0 : Int32))])) (fun t k => XS.iload X19.her hx rfl (hb hby at_94) rfl k) ?_
        refine own_st (f' := (mkF m 103 #[.val (.int p0), .val (.int p1), .val (.int p2), .val (.int (1 : Int32)), .val (.int (own_t0_26 p0 p1 p2)), .val (.int (own_t0_36 p0 p1 p2)), .val (.int (own_t0_46 p0 p1 p2)), .val (.int (0 : Int32)), .val (.int (0 : Int32))] [])) (fun t k => XS.ifYes X19.her hx rfl (pc0 := 96) (pc' := 103) rfl (hb hby at_96) rfl ((if0 _ _).trans (teq (rfl : (0 : Int32) = (0 : Int32))).1) (by decide) (by decide) k) ?_
        refine own_st (f' := (mkF m 104 #[.val (.int p0), .val (.int p1), .val (.int p2), .val (.int (1 : Int32)), .val (.int (own_t0_26 p0 p1 p2)), .val (.int (own_t0_36 p0 p1 p2)), .val (.int (own_t0_46 p0 p1 p2)), .val (.int (0 : Int32)), .val (.int (0 : Int32))] [(.int (0 : Int32))])) (fun t k => XS.iconst X19.her hx rfl (hb hby at_103) k) ?_
        refine own_retN (t := .boolean) X19 hx hret hlk (by simp) (hb hby at_104) (by first | decide | omega) (by first | decide | omega) ?_
        exact congrArg (fun q => some (Value.int q)) (by unfold own_F0; rw [if_pos hc9, if_neg hc10, if_neg hc20]; first | done | exact by decide)
  · refine own_st (f' := (mkF m 15 #[.val (.int p0), .val (.int p1), .val (.int p2), .unset, .unset, .unset, .unset, .unset, .unset] [])) (fun t k => XS.icmpYes X8.her hx rfl (pc0 := 8) (pc' := 15) rfl (hb hby at_8) rfl (feq hc9).2 (by decide) (by decide) k) ?_
    refine own_st (f' := (mkF m 16 #[.val (.int p0), .val (.int p1), .val (.int p2), .unset, .unset, .unset, .unset, .unset, .unset] [(.int (0 : Int32))])) (fun t k => XS.iconst X8.her hx rfl (hb hby at_15) k) ?_
    refine own_st (f' := (mkF m 17 #[.val (.int p0), .val (.int p1), .val (.int p2), .val (.int (0 : Int32)), .unset, .unset, .unset, .unset, .unset] [])) (fun t k => XS.istoreN X8.her hx rfl (hb hby at_16) rfl (l' := #[.val (.int p0), .val (.int p1), .val (.int p2), .val (.int (0 : Int32)), .unset, .unset, .unset, .unset, .unset]) rfl k) ?_
    refine own_st (f' := (mkF m 18 #[.val (.int p0), .val (.int p1), .val (.int p2), .val (.int (0 : Int32)), .unset, .unset, .unset, .unset, .unset] [(.int p1)])) (fun t k => XS.iloadN X8.her hx rfl (hb hby at_17) rfl k) ?_
    refine own_ldcI X8 hx hZ hown (own_w8 hw) (hb hby at_18) ?_
    refine own_st (f' := (mkF m 21 #[.val (.int p0), .val (.int p1), .val (.int p2), .val (.int (0 : Int32)), .unset, .unset, .unset, .unset, .unset] [(.int (p1 &&& (2147483647 : Int32)))])) (fun t k => XS.iand X8.her hx rfl (hb hby at_20) rfl k) ?_
    refine own_st (f' := (mkF m 23 #[.val (.int p0), .val (.int p1), .val (.int p2), .val (.int (0 : Int32)), .unset, .unset, .unset, .unset, .unset] [(.int (60 : Int32)), (.int (p1 &&& (2147483647 : Int32)))])) (fun t k => XS.bipush X8.her hx rfl (hb hby at_21) k) ?_
    refine own_irem X8 hx (hb hby at_23) (by decide) ?_
    refine own_st (f' := (mkF m 25 #[.val (.int p0), .val (.int p1), .val (.int p2), .val (.int (0 : Int32)), .unset, .unset, .unset, .unset, .unset] [(.int (3 : Int32)), (.int ((p1 &&& (2147483647 : Int32)) % (60 : Int32)))])) (fun t k => XS.iconst X8.her hx rfl (hb hby at_24) k) ?_
    refine own_st (f' := (mkF m 26 #[.val (.int p0), .val (.int p1), .val (.int p2), .val (.int (0 : Int32)), .unset, .unset, .unset, .unset, .unset] [(.int (((p1 &&& (2147483647 : Int32)) % (60 : Int32)) - (3 : Int32)))])) (fun t k => XS.isub X8.her hx rfl (hb hby at_25) rfl k) ?_
    refine own_st (f' := (mkF m 28 #[.val (.int p0), .val (.int p1), .val (.int p2), .val (.int (0 : Int32)), .val (.int (own_t0_26 p0 p1 p2)), .unset, .unset, .unset, .unset] [])) (fun t k => XS.istore X8.her hx rfl (hb hby at_26) rfl (l' := #[.val (.int p0), .val (.int p1), .val (.int p2), .val (.int (0 : Int32)), .val (.int (own_t0_26 p0 p1 p2)), .unset, .unset, .unset, .unset]) rfl k) ?_
    refine own_st (f' := (mkF m 29 #[.val (.int p0), .val (.int p1), .val (.int p2), .val (.int (0 : Int32)), .val (.int (own_t0_26 p0 p1 p2)), .unset, .unset, .unset, .unset] [(.int p2)])) (fun t k => XS.iloadN X8.her hx rfl (hb hby at_28) rfl k) ?_
    refine own_ldcI X8 hx hZ hown (own_w8 hw) (hb hby at_29) ?_
    refine own_st (f' := (mkF m 32 #[.val (.int p0), .val (.int p1), .val (.int p2), .val (.int (0 : Int32)), .val (.int (own_t0_26 p0 p1 p2)), .unset, .unset, .unset, .unset] [(.int (p2 &&& (2147483647 : Int32)))])) (fun t k => XS.iand X8.her hx rfl (hb hby at_31) rfl k) ?_
    refine own_st (f' := (mkF m 33 #[.val (.int p0), .val (.int p1), .val (.int p2), .val (.int (0 : Int32)), .val (.int (own_t0_26 p0 p1 p2)), .unset, .unset, .unset, .unset] [(.int (3 : Int32)), (.int (p2 &&& (2147483647 : Int32)))])) (fun t k => XS.iconst X8.her hx rfl (hb hby at_32) k) ?_
    refine own_irem X8 hx (hb hby at_33) (by decide) ?_
    refine own_st (f' := (mkF m 35 #[.val (.int p0), .val (.int p1), .val (.int p2), .val (.int (0 : Int32)), .val (.int (own_t0_26 p0 p1 p2)), .unset, .unset, .unset, .unset] [(.int (1 : Int32)), (.int ((p2 &&& (2147483647 : Int32)) % (3 : Int32)))])) (fun t k => XS.iconst X8.her hx rfl (hb hby at_34) k) ?_
    refine own_st (f' := (mkF m 36 #[.val (.int p0), .val (.int p1), .val (.int p2), .val (.int (0 : Int32)), .val (.int (own_t0_26 p0 p1 p2)), .unset, .unset, .unset, .unset] [(.int (((p2 &&& (2147483647 : Int32)) % (3 : Int32)) - (1 : Int32)))])) (fun t k => XS.isub X8.her hx rfl (hb hby at_35) rfl k) ?_
    refine own_st (f' := (mkF m 38 #[.val (.int p0), .val (.int p1), .val (.int p2), .val (.int (0 : Int32)), .val (.int (own_t0_26 p0 p1 p2)), .val (.int (own_t0_36 p0 p1 p2)), .unset, .unset, .unset] [])) (fun t k => XS.istore X8.her hx rfl (hb hby at_36) rfl (l' := #[.val (.int p0), .val (.int p1), .val (.int p2), .val (.int (0 : Int32)), .val (.int (own_t0_26 p0 p1 p2)), .val (.int (own_t0_36 p0 p1 p2)), .unset, .unset, .unset]) rfl k) ?_
    refine own_st (f' := (mkF m 40 #[.val (.int p0), .val (.int p1), .val (.int p2), .val (.int (0 : Int32)), .val (.int (own_t0_26 p0 p1 p2)), .val (.int (own_t0_36 p0 p1 p2)), .unset, .unset, .unset] [(.int (own_t0_26 p0 p1 p2))])) (fun t k => XS.iload X8.her hx rfl (hb hby at_38) rfl k) ?_
    refine own_st (f' := (mkF m 42 #[.val (.int p0), .val (.int p1), .val (.int p2), .val (.int (0 : Int32)), .val (.int (own_t0_26 p0 p1 p2)), .val (.int (own_t0_36 p0 p1 p2)), .unset, .unset, .unset] [(.int (10 : Int32)), (.int (own_t0_26 p0 p1 p2))])) (fun t k => XS.bipush X8.her hx rfl (hb hby at_40) k) ?_
    refine own_st (f' := (mkF m 43 #[.val (.int p0), .val (.int p1), .val (.int p2), .val (.int (0 : Int32)), .val (.int (own_t0_26 p0 p1 p2)), .val (.int (own_t0_36 p0 p1 p2)), .unset, .unset, .unset] [(.int ((own_t0_26 p0 p1 p2) * (10 : Int32)))])) (fun t k => XS.imul X8.her hx rfl (hb hby at_42) rfl k) ?_
    refine own_st (f' := (mkF m 45 #[.val (.int p0), .val (.int p1), .val (.int p2), .val (.int (0 : Int32)), .val (.int (own_t0_26 p0 p1 p2)), .val (.int (own_t0_36 p0 p1 p2)), .unset, .unset, .unset] [(.int (own_t0_36 p0 p1 p2)), (.int ((own_t0_26 p0 p1 p2) * (10 : Int32)))])) (fun t k => XS.iload X8.her hx rfl (hb hby at_43) rfl k) ?_
    refine own_st (f' := (mkF m 46 #[.val (.int p0), .val (.int p1), .val (.int p2), .val (.int (0 : Int32)), .val (.int (own_t0_26 p0 p1 p2)), .val (.int (own_t0_36 p0 p1 p2)), .unset, .unset, .unset] [(.int (((own_t0_26 p0 p1 p2) * (10 : Int32)) + (own_t0_36 p0 p1 p2)))])) (fun t k => XS.iadd X8.her hx rfl (hb hby at_45) rfl k) ?_
    refine own_st (f' := (mkF m 48 #[.val (.int p0), .val (.int p1), .val (.int p2), .val (.int (0 : Int32)), .val (.int (own_t0_26 p0 p1 p2)), .val (.int (own_t0_36 p0 p1 p2)), .val (.int (own_t0_46 p0 p1 p2)), .unset, .unset] [])) (fun t k => XS.istore X8.her hx rfl (hb hby at_46) rfl (l' := #[.val (.int p0), .val (.int p1), .val (.int p2), .val (.int (0 : Int32)), .val (.int (own_t0_26 p0 p1 p2)), .val (.int (own_t0_36 p0 p1 p2)), .val (.int (own_t0_46 p0 p1 p2)), .unset, .unset]) rfl k) ?_
    refine own_st (f' := (mkF m 50 #[.val (.int p0), .val (.int p1), .val (.int p2), .val (.int (0 : Int32)), .val (.int (own_t0_26 p0 p1 p2)), .val (.int (own_t0_36 p0 p1 p2)), .val (.int (own_t0_46 p0 p1 p2)), .unset, .unset] [(.int (own_t0_36 p0 p1 p2))])) (fun t k => XS.iload X8.her hx rfl (hb hby at_48) rfl k) ?_
    by_cases hc21 : (own_t0_36 p0 p1 p2) = (0 : Int32)
    · refine own_st (f' := (mkF m 53 #[.val (.int p0), .val (.int p1), .val (.int p2), .val (.int (0 : Int32)), .val (.int (own_t0_26 p0 p1 p2)), .val (.int (own_t0_36 p0 p1 p2)), .val (.int (own_t0_46 p0 p1 p2)), .unset, .unset] [])) (fun t k => XS.ifNo X8.her hx rfl (hb hby at_50) rfl ((if0 _ _).trans (teq hc21).2) k) ?_
      refine own_st (f' := (mkF m 55 #[.val (.int p0), .val (.int p1), .val (.int p2), .val (.int (0 : Int32)), .val (.int (own_t0_26 p0 p1 p2)), .val (.int (own_t0_36 p0 p1 p2)), .val (.int (own_t0_46 p0 p1 p2)), .unset, .unset] [(.int (own_t0_26 p0 p1 p2))])) (fun t k => XS.iload X8.her hx rfl (hb hby at_53) rfl k) ?_
      refine own_st (f' := (mkF m 56 #[.val (.int p0), .val (.int p1), .val (.int p2), .val (.int (0 : Int32)), .val (.int (own_t0_26 p0 p1 p2)), .val (.int (own_t0_36 p0 p1 p2)), .val (.int (own_t0_46 p0 p1 p2)), .unset, .unset] [(.int (1 : Int32)), (.int (own_t0_26 p0 p1 p2))])) (fun t k => XS.iconst X8.her hx rfl (hb hby at_55) k) ?_
      by_cases hc22 : (own_t0_26 p0 p1 p2) < (1 : Int32)
      · refine own_st (f' := (mkF m 70 #[.val (.int p0), .val (.int p1), .val (.int p2), .val (.int (0 : Int32)), .val (.int (own_t0_26 p0 p1 p2)), .val (.int (own_t0_36 p0 p1 p2)), .val (.int (own_t0_46 p0 p1 p2)), .unset, .unset] [])) (fun t k => XS.icmpYes X8.her hx rfl (pc0 := 56) (pc' := 70) rfl (hb hby at_56) rfl (tlt hc22).1 (by decide) (by decide) k) ?_
        refine own_st (f' := (mkF m 71 #[.val (.int p0), .val (.int p1), .val (.int p2), .val (.int (0 : Int32)), .val (.int (own_t0_26 p0 p1 p2)), .val (.int (own_t0_36 p0 p1 p2)), .val (.int (own_t0_46 p0 p1 p2)), .unset, .unset] [(.int (0 : Int32))])) (fun t k => XS.iconst X8.her hx rfl (hb hby at_70) k) ?_
        refine own_st (f' := (mkF m 73 #[.val (.int p0), .val (.int p1), .val (.int p2), .val (.int (0 : Int32)), .val (.int (own_t0_26 p0 p1 p2)), .val (.int (own_t0_36 p0 p1 p2)), .val (.int (own_t0_46 p0 p1 p2)), .val (.int (0 : Int32)), .unset] [])) (fun t k => XS.istore X8.her hx rfl (hb hby at_71) rfl (l' := #[.val (.int p0), .val (.int p1), .val (.int p2), .val (.int (0 : Int32)), .val (.int (own_t0_26 p0 p1 p2)), .val (.int (own_t0_36 p0 p1 p2)), .val (.int (own_t0_46 p0 p1 p2)), .val (.int (0 : Int32)), .unset]) rfl k) ?_
        refine own_st (f' := (mkF m 75 #[.val (.int p0), .val (.int p1), .val (.int p2), .val (.int (0 : Int32)), .val (.int (own_t0_26 p0 p1 p2)), .val (.int (own_t0_36 p0 p1 p2)), .val (.int (own_t0_46 p0 p1 p2)), .val (.int (0 : Int32)), .unset] [(.int (own_t0_46 p0 p1 p2))])) (fun t k => XS.iload X8.her hx rfl (hb hby at_73) rfl k) ?_
        refine own_callSP (y := (⟨"com/example/bidwright/bidwright/game/FlightTrend", "isUpdateTime", "(I)Z"⟩ : MethodName)) (W := 0) [(.int (own_t0_46 p0 p1 p2))] X8 hx hZ hown (own_w0 hw) (own_w1 hw) (own_w2 hw) (own_w3 hw) (by decide) (own_c1 l Z a0 hw h0 n0 Z0 (own_t0_46 p0 p1 p2)) (by decide) (by decide) (by decide) (by decide) (by rw [hml]; rfl) own_pd0 rfl rfl (Nat.le_of_eq rfl) (hb hby at_75) ?_
        intro T23 X23
        show own_G p e below _ T23 (mkF m 78 #[.val (.int p0), .val (.int p1), .val (.int p2), .val (.int (0 : Int32)), .val (.int (own_t0_26 p0 p1 p2)), .val (.int (own_t0_36 p0 p1 p2)), .val (.int (own_t0_46 p0 p1 p2)), .val (.int (0 : Int32)), .unset] [(.int (own_F1 (own_t0_46 p0 p1 p2)))])
        refine own_st (f' := (mkF m 80 #[.val (.int p0), .val (.int p1), .val (.int p2), .val (.int (0 : Int32)), .val (.int (own_t0_26 p0 p1 p2)), .val (.int (own_t0_36 p0 p1 p2)), .val (.int (own_t0_46 p0 p1 p2)), .val (.int (0 : Int32)), .unset] [(.int (0 : Int32)), (.int (own_F1 (own_t0_46 p0 p1 p2)))])) (fun t k => XS.iload X23.her hx rfl (hb hby at_78) rfl k) ?_
        by_cases hc24 : (own_F1 (own_t0_46 p0 p1 p2)) = (0 : Int32)
        · refine own_st (f' := (mkF m 83 #[.val (.int p0), .val (.int p1), .val (.int p2), .val (.int (0 : Int32)), .val (.int (own_t0_26 p0 p1 p2)), .val (.int (own_t0_36 p0 p1 p2)), .val (.int (own_t0_46 p0 p1 p2)), .val (.int (0 : Int32)), .unset] [])) (fun t k => XS.icmpNo X23.her hx rfl (hb hby at_80) rfl (teq hc24).2 k) ?_
          refine own_st (f' := (mkF m 84 #[.val (.int p0), .val (.int p1), .val (.int p2), .val (.int (0 : Int32)), .val (.int (own_t0_26 p0 p1 p2)), .val (.int (own_t0_36 p0 p1 p2)), .val (.int (own_t0_46 p0 p1 p2)), .val (.int (0 : Int32)), .unset] [(.int (1 : Int32))])) (fun t k => XS.iconst X23.her hx rfl (hb hby at_83) k) ?_
          refine own_st (f' := (mkF m 88 #[.val (.int p0), .val (.int p1), .val (.int p2), .val (.int (0 : Int32)), .val (.int (own_t0_26 p0 p1 p2)), .val (.int (own_t0_36 p0 p1 p2)), .val (.int (own_t0_46 p0 p1 p2)), .val (.int (0 : Int32)), .unset] [(.int (1 : Int32))])) (fun t k => XS.goto X23.her hx rfl (pc0 := 84) (pc' := 88) rfl (hb hby at_84) (by decide) (by decide) k) ?_
          refine own_st (f' := (mkF m 90 #[.val (.int p0), .val (.int p1), .val (.int p2), .val (.int (0 : Int32)), .val (.int (own_t0_26 p0 p1 p2)), .val (.int (own_t0_36 p0 p1 p2)), .val (.int (own_t0_46 p0 p1 p2)), .val (.int (0 : Int32)), .val (.int (1 : Int32))] [])) (fun t k => XS.istore X23.her hx rfl (hb hby at_88) rfl (l' := #[.val (.int p0), .val (.int p1), .val (.int p2), .val (.int (0 : Int32)), .val (.int (own_t0_26 p0 p1 p2)), .val (.int (own_t0_36 p0 p1 p2)), .val (.int (own_t0_46 p0 p1 p2)), .val (.int (0 : Int32)), .val (.int (1 : Int32))]) rfl k) ?_
          refine own_st (f' := (mkF m 91 #[.val (.int p0), .val (.int p1), .val (.int p2), .val (.int (0 : Int32)), .val (.int (own_t0_26 p0 p1 p2)), .val (.int (own_t0_36 p0 p1 p2)), .val (.int (own_t0_46 p0 p1 p2)), .val (.int (0 : Int32)), .val (.int (1 : Int32))] [(.int (0 : Int32))])) (fun t k => XS.iloadN X23.her hx rfl (hb hby at_90) rfl k) ?_
          refine own_st (f' := (mkF m 103 #[.val (.int p0), .val (.int p1), .val (.int p2), .val (.int (0 : Int32)), .val (.int (own_t0_26 p0 p1 p2)), .val (.int (own_t0_36 p0 p1 p2)), .val (.int (own_t0_46 p0 p1 p2)), .val (.int (0 : Int32)), .val (.int (1 : Int32))] [])) (fun t k => XS.ifYes X23.her hx rfl (pc0 := 91) (pc' := 103) rfl (hb hby at_91) rfl ((if0 _ _).trans (teq (rfl : (0 : Int32) = (0 : Int32))).1) (by decide) (by decide) k) ?_
          refine own_st (f' := (mkF m 104 #[.val (.int p0), .val (.int p1), .val (.int p2), .val (.int (0 : Int32)), .val (.int (own_t0_26 p0 p1 p2)), .val (.int (own_t0_36 p0 p1 p2)), .val (.int (own_t0_46 p0 p1 p2)), .val (.int (0 : Int32)), .val (.int (1 : Int32))] [(.int (0 : Int32))])) (fun t k => XS.iconst X23.her hx rfl (hb hby at_103) k) ?_
          refine own_retN (t := .boolean) X23 hx hret hlk (by simp) (hb hby at_104) (by first | decide | omega) (by first | decide | omega) ?_
          exact congrArg (fun q => some (Value.int q)) (by unfold own_F0; rw [if_neg hc9, if_pos hc21, if_pos hc22, if_pos hc24]; first | done | exact by decide)
        · refine own_st (f' := (mkF m 87 #[.val (.int p0), .val (.int p1), .val (.int p2), .val (.int (0 : Int32)), .val (.int (own_t0_26 p0 p1 p2)), .val (.int (own_t0_36 p0 p1 p2)), .val (.int (own_t0_46 p0 p1 p2)), .val (.int (0 : Int32)), .unset] [])) (fun t k => XS.icmpYes X23.her hx rfl (pc0 := 80) (pc' := 87) rfl (hb hby at_80) rfl (feq hc24).2 (by decide) (by decide) k) ?_
          refine own_st (f' := (mkF m 88 #[.val (.int p0), .val (.int p1), .val (.int p2), .val (.int (0 : Int32)), .val (.int (own_t0_26 p0 p1 p2)), .val (.int (own_t0_36 p0 p1 p2)), .val (.int (own_t0_46 p0 p1 p2)), .val (.int (0 : Int32)), .unset] [(.int (0 : Int32))])) (fun t k => XS.iconst X23.her hx rfl (hb hby at_87) k) ?_
          refine own_st (f' := (mkF m 90 #[.val (.int p0), .val (.int p1), .val (.int p2), .val (.int (0 : Int32)), .val (.int (own_t0_26 p0 p1 p2)), .val (.int (own_t0_36 p0 p1 p2)), .val (.int (own_t0_46 p0 p1 p2)), .val (.int (0 : Int32)), .val (.int (0 : Int32))] [])) (fun t k => XS.istore X23.her hx rfl (hb hby at_88) rfl (l' := #[.val (.int p0), .val (.int p1), .val (.int p2), .val (.int (0 : Int32)), .val (.int (own_t0_26 p0 p1 p2)), .val (.int (own_t0_36 p0 p1 p2)), .val (.int (own_t0_46 p0 p1 p2)), .val (.int (0 : Int32)), .val (.int (0 : Int32))]) rfl k) ?_
          refine own_st (f' := (mkF m 91 #[.val (.int p0), .val (.int p1), .val (.int p2), .val (.int (0 : Int32)), .val (.int (own_t0_26 p0 p1 p2)), .val (.int (own_t0_36 p0 p1 p2)), .val (.int (own_t0_46 p0 p1 p2)), .val (.int (0 : Int32)), .val (.int (0 : Int32))] [(.int (0 : Int32))])) (fun t k => XS.iloadN X23.her hx rfl (hb hby at_90) rfl k) ?_
          refine own_st (f' := (mkF m 103 #[.val (.int p0), .val (.int p1), .val (.int p2), .val (.int (0 : Int32)), .val (.int (own_t0_26 p0 p1 p2)), .val (.int (own_t0_36 p0 p1 p2)), .val (.int (own_t0_46 p0 p1 p2)), .val (.int (0 : Int32)), .val (.int (0 : Int32))] [])) (fun t k => XS.ifYes X23.her hx rfl (pc0 := 91) (pc' := 103) rfl (hb hby at_91) rfl ((if0 _ _).trans (teq (rfl : (0 : Int32) = (0 : Int32))).1) (by decide) (by decide) k) ?_
          refine own_st (f' := (mkF m 104 #[.val (.int p0), .val (.int p1), .val (.int p2), .val (.int (0 : Int32)), .val (.int (own_t0_26 p0 p1 p2)), .val (.int (own_t0_36 p0 p1 p2)), .val (.int (own_t0_46 p0 p1 p2)), .val (.int (0 : Int32)), .val (.int (0 : Int32))] [(.int (0 : Int32))])) (fun t k => XS.iconst X23.her hx rfl (hb hby at_103) k) ?_
          refine own_retN (t := .boolean) X23 hx hret hlk (by simp) (hb hby at_104) (by first | decide | omega) (by first | decide | omega) ?_
          exact congrArg (fun q => some (Value.int q)) (by unfold own_F0; rw [if_neg hc9, if_pos hc21, if_pos hc22, if_neg hc24]; first | done | exact by decide)
      · refine own_st (f' := (mkF m 59 #[.val (.int p0), .val (.int p1), .val (.int p2), .val (.int (0 : Int32)), .val (.int (own_t0_26 p0 p1 p2)), .val (.int (own_t0_36 p0 p1 p2)), .val (.int (own_t0_46 p0 p1 p2)), .unset, .unset] [])) (fun t k => XS.icmpNo X8.her hx rfl (hb hby at_56) rfl (flt hc22).1 k) ?_
        refine own_st (f' := (mkF m 61 #[.val (.int p0), .val (.int p1), .val (.int p2), .val (.int (0 : Int32)), .val (.int (own_t0_26 p0 p1 p2)), .val (.int (own_t0_36 p0 p1 p2)), .val (.int (own_t0_46 p0 p1 p2)), .unset, .unset] [(.int (own_t0_26 p0 p1 p2))])) (fun t k => XS.iload X8.her hx rfl (hb hby at_59) rfl k) ?_
        refine own_st (f' := (mkF m 63 #[.val (.int p0), .val (.int p1), .val (.int p2), .val (.int (0 : Int32)), .val (.int (own_t0_26 p0 p1 p2)), .val (.int (own_t0_36 p0 p1 p2)), .val (.int (own_t0_46 p0 p1 p2)), .unset, .unset] [(.int (53 : Int32)), (.int (own_t0_26 p0 p1 p2))])) (fun t k => XS.bipush X8.her hx rfl (hb hby at_61) k) ?_
        by_cases hc25 : (53 : Int32) < (own_t0_26 p0 p1 p2)
        · refine own_st (f' := (mkF m 70 #[.val (.int p0), .val (.int p1), .val (.int p2), .val (.int (0 : Int32)), .val (.int (own_t0_26 p0 p1 p2)), .val (.int (own_t0_36 p0 p1 p2)), .val (.int (own_t0_46 p0 p1 p2)), .unset, .unset] [])) (fun t k => XS.icmpYes X8.her hx rfl (pc0 := 63) (pc' := 70) rfl (hb hby at_63) rfl (tlt hc25).2.2.1 (by decide) (by decide) k) ?_
          refine own_st (f' := (mkF m 71 #[.val (.int p0), .val (.int p1), .val (.int p2), .val (.int (0 : Int32)), .val (.int (own_t0_26 p0 p1 p2)), .val (.int (own_t0_36 p0 p1 p2)), .val (.int (own_t0_46 p0 p1 p2)), .unset, .unset] [(.int (0 : Int32))])) (fun t k => XS.iconst X8.her hx rfl (hb hby at_70) k) ?_
          refine own_st (f' := (mkF m 73 #[.val (.int p0), .val (.int p1), .val (.int p2), .val (.int (0 : Int32)), .val (.int (own_t0_26 p0 p1 p2)), .val (.int (own_t0_36 p0 p1 p2)), .val (.int (own_t0_46 p0 p1 p2)), .val (.int (0 : Int32)), .unset] [])) (fun t k => XS.istore X8.her hx rfl (hb hby at_71) rfl (l' := #[.val (.int p0), .val (.int p1), .val (.int p2), .val (.int (0 : Int32)), .val (.int (own_t0_26 p0 p1 p2)), .val (.int (own_t0_36 p0 p1 p2)), .val (.int (own_t0_46 p0 p1 p2)), .val (.int (0 : Int32)), .unset]) rfl k) ?_
          refine own_st (f' := (mkF m 75 #[.val (.int p0), .val (.int p1), .val (.int p2), .val (.int (0 : Int32)), .val (.int (own_t0_26 p0 p1 p2)), .val (.int (own_t0_36 p0 p1 p2)), .val (.int (own_t0_46 p0 p1 p2)), .val (.int (0 : Int32)), .unset] [(.int (own_t0_46 p0 p1 p2))])) (fun t k => XS.iload X8.her hx rfl (hb hby at_73) rfl k) ?_
          refine own_callSP (y := (⟨"com/example/bidwright/bidwright/game/FlightTrend", "isUpdateTime", "(I)Z"⟩ : MethodName)) (W := 0) [(.int (own_t0_46 p0 p1 p2))] X8 hx hZ hown (own_w0 hw) (own_w1 hw) (own_w2 hw) (own_w3 hw) (by decide) (own_c1 l Z a0 hw h0 n0 Z0 (own_t0_46 p0 p1 p2)) (by decide) (by decide) (by decide) (by decide) (by rw [hml]; rfl) own_pd0 rfl rfl (Nat.le_of_eq rfl) (hb hby at_75) ?_
          intro T26 X26
          show own_G p e below _ T26 (mkF m 78 #[.val (.int p0), .val (.int p1), .val (.int p2), .val (.int (0 : Int32)), .val (.int (own_t0_26 p0 p1 p2)), .val (.int (own_t0_36 p0 p1 p2)), .val (.int (own_t0_46 p0 p1 p2)), .val (.int (0 : Int32)), .unset] [(.int (own_F1 (own_t0_46 p0 p1 p2)))])
          refine own_st (f' := (mkF m 80 #[.val (.int p0), .val (.int p1), .val (.int p2), .val (.int (0 : Int32)), .val (.int (own_t0_26 p0 p1 p2)), .val (.int (own_t0_36 p0 p1 p2)), .val (.int (own_t0_46 p0 p1 p2)), .val (.int (0 : Int32)), .unset] [(.int (0 : Int32)), (.int (own_F1 (own_t0_46 p0 p1 p2)))])) (fun t k => XS.iload X26.her hx rfl (hb hby at_78) rfl k) ?_
          by_cases hc27 : (own_F1 (own_t0_46 p0 p1 p2)) = (0 : Int32)
          · refine own_st (f' := (mkF m 83 #[.val (.int p0), .val (.int p1), .val (.int p2), .val (.int (0 : Int32)), .val (.int (own_t0_26 p0 p1 p2)), .val (.int (own_t0_36 p0 p1 p2)), .val (.int (own_t0_46 p0 p1 p2)), .val (.int (0 : Int32)), .unset] [])) (fun t k => XS.icmpNo X26.her hx rfl (hb hby at_80) rfl (teq hc27).2 k) ?_
            refine own_st (f' := (mkF m 84 #[.val (.int p0), .val (.int p1), .val (.int p2), .val (.int (0 : Int32)), .val (.int (own_t0_26 p0 p1 p2)), .val (.int (own_t0_36 p0 p1 p2)), .val (.int (own_t0_46 p0 p1 p2)), .val (.int (0 : Int32)), .unset] [(.int (1 : Int32))])) (fun t k => XS.iconst X26.her hx rfl (hb hby at_83) k) ?_
            refine own_st (f' := (mkF m 88 #[.val (.int p0), .val (.int p1), .val (.int p2), .val (.int (0 : Int32)), .val (.int (own_t0_26 p0 p1 p2)), .val (.int (own_t0_36 p0 p1 p2)), .val (.int (own_t0_46 p0 p1 p2)), .val (.int (0 : Int32)), .unset] [(.int (1 : Int32))])) (fun t k => XS.goto X26.her hx rfl (pc0 := 84) (pc' := 88) rfl (hb hby at_84) (by decide) (by decide) k) ?_
            refine own_st (f' := (mkF m 90 #[.val (.int p0), .val (.int p1), .val (.int p2), .val (.int (0 : Int32)), .val (.int (own_t0_26 p0 p1 p2)), .val (.int (own_t0_36 p0 p1 p2)), .val (.int (own_t0_46 p0 p1 p2)), .val (.int (0 : Int32)), .val (.int (1 : Int32))] [])) (fun t k => XS.istore X26.her hx rfl (hb hby at_88) rfl (l' := #[.val (.int p0), .val (.int p1), .val (.int p2), .val (.int (0 : Int32)), .val (.int (own_t0_26 p0 p1 p2)), .val (.int (own_t0_36 p0 p1 p2)), .val (.int (own_t0_46 p0 p1 p2)), .val (.int (0 : Int32)), .val (.int (1 : Int32))]) rfl k) ?_
            refine own_st (f' := (mkF m 91 #[.val (.int p0), .val (.int p1), .val (.int p2), .val (.int (0 : Int32)), .val (.int (own_t0_26 p0 p1 p2)), .val (.int (own_t0_36 p0 p1 p2)), .val (.int (own_t0_46 p0 p1 p2)), .val (.int (0 : Int32)), .val (.int (1 : Int32))] [(.int (0 : Int32))])) (fun t k => XS.iloadN X26.her hx rfl (hb hby at_90) rfl k) ?_
            refine own_st (f' := (mkF m 103 #[.val (.int p0), .val (.int p1), .val (.int p2), .val (.int (0 : Int32)), .val (.int (own_t0_26 p0 p1 p2)), .val (.int (own_t0_36 p0 p1 p2)), .val (.int (own_t0_46 p0 p1 p2)), .val (.int (0 : Int32)), .val (.int (1 : Int32))] [])) (fun t k => XS.ifYes X26.her hx rfl (pc0 := 91) (pc' := 103) rfl (hb hby at_91) rfl ((if0 _ _).trans (teq (rfl : (0 : Int32) = (0 : Int32))).1) (by decide) (by decide) k) ?_
            refine own_st (f' := (mkF m 104 #[.val (.int p0), .val (.int p1), .val (.int p2), .val (.int (0 : Int32)), .val (.int (own_t0_26 p0 p1 p2)), .val (.int (own_t0_36 p0 p1 p2)), .val (.int (own_t0_46 p0 p1 p2)), .val (.int (0 : Int32)), .val (.int (1 : Int32))] [(.int (0 : Int32))])) (fun t k => XS.iconst X26.her hx rfl (hb hby at_103) k) ?_
            refine own_retN (t := .boolean) X26 hx hret hlk (by simp) (hb hby at_104) (by first | decide | omega) (by first | decide | omega) ?_
            exact congrArg (fun q => some (Value.int q)) (by unfold own_F0; rw [if_neg hc9, if_pos hc21, if_neg hc22, if_pos hc25, if_pos hc27]; first | done | exact by decide)
          · refine own_st (f' := (mkF m 87 #[.val (.int p0), .val (.int p1), .val (.int p2), .val (.int (0 : Int32)), .val (.int (own_t0_26 p0 p1 p2)), .val (.int (own_t0_36 p0 p1 p2)), .val (.int (own_t0_46 p0 p1 p2)), .val (.int (0 : Int32)), .unset] [])) (fun t k => XS.icmpYes X26.her hx rfl (pc0 := 80) (pc' := 87) rfl (hb hby at_80) rfl (feq hc27).2 (by decide) (by decide) k) ?_
            refine own_st (f' := (mkF m 88 #[.val (.int p0), .val (.int p1), .val (.int p2), .val (.int (0 : Int32)), .val (.int (own_t0_26 p0 p1 p2)), .val (.int (own_t0_36 p0 p1 p2)), .val (.int (own_t0_46 p0 p1 p2)), .val (.int (0 : Int32)), .unset] [(.int (0 : Int32))])) (fun t k => XS.iconst X26.her hx rfl (hb hby at_87) k) ?_
            refine own_st (f' := (mkF m 90 #[.val (.int p0), .val (.int p1), .val (.int p2), .val (.int (0 : Int32)), .val (.int (own_t0_26 p0 p1 p2)), .val (.int (own_t0_36 p0 p1 p2)), .val (.int (own_t0_46 p0 p1 p2)), .val (.int (0 : Int32)), .val (.int (0 : Int32))] [])) (fun t k => XS.istore X26.her hx rfl (hb hby at_88) rfl (l' := #[.val (.int p0), .val (.int p1), .val (.int p2), .val (.int (0 : Int32)), .val (.int (own_t0_26 p0 p1 p2)), .val (.int (own_t0_36 p0 p1 p2)), .val (.int (own_t0_46 p0 p1 p2)), .val (.int (0 : Int32)), .val (.int (0 : Int32))]) rfl k) ?_
            refine own_st (f' := (mkF m 91 #[.val (.int p0), .val (.int p1), .val (.int p2), .val (.int (0 : Int32)), .val (.int (own_t0_26 p0 p1 p2)), .val (.int (own_t0_36 p0 p1 p2)), .val (.int (own_t0_46 p0 p1 p2)), .val (.int (0 : Int32)), .val (.int (0 : Int32))] [(.int (0 : Int32))])) (fun t k => XS.iloadN X26.her hx rfl (hb hby at_90) rfl k) ?_
            refine own_st (f' := (mkF m 103 #[.val (.int p0), .val (.int p1), .val (.int p2), .val (.int (0 : Int32)), .val (.int (own_t0_26 p0 p1 p2)), .val (.int (own_t0_36 p0 p1 p2)), .val (.int (own_t0_46 p0 p1 p2)), .val (.int (0 : Int32)), .val (.int (0 : Int32))] [])) (fun t k => XS.ifYes X26.her hx rfl (pc0 := 91) (pc' := 103) rfl (hb hby at_91) rfl ((if0 _ _).trans (teq (rfl : (0 : Int32) = (0 : Int32))).1) (by decide) (by decide) k) ?_
            refine own_st (f' := (mkF m 104 #[.val (.int p0), .val (.int p1), .val (.int p2), .val (.int (0 : Int32)), .val (.int (own_t0_26 p0 p1 p2)), .val (.int (own_t0_36 p0 p1 p2)), .val (.int (own_t0_46 p0 p1 p2)), .val (.int (0 : Int32)), .val (.int (0 : Int32))] [(.int (0 : Int32))])) (fun t k => XS.iconst X26.her hx rfl (hb hby at_103) k) ?_
            refine own_retN (t := .boolean) X26 hx hret hlk (by simp) (hb hby at_104) (by first | decide | omega) (by first | decide | omega) ?_
            exact congrArg (fun q => some (Value.int q)) (by unfold own_F0; rw [if_neg hc9, if_pos hc21, if_neg hc22, if_pos hc25, if_neg hc27]; first | done | exact by decide)
        · refine own_st (f' := (mkF m 66 #[.val (.int p0), .val (.int p1), .val (.int p2), .val (.int (0 : Int32)), .val (.int (own_t0_26 p0 p1 p2)), .val (.int (own_t0_36 p0 p1 p2)), .val (.int (own_t0_46 p0 p1 p2)), .unset, .unset] [])) (fun t k => XS.icmpNo X8.her hx rfl (hb hby at_63) rfl (flt hc25).2.2.1 k) ?_
          refine own_st (f' := (mkF m 67 #[.val (.int p0), .val (.int p1), .val (.int p2), .val (.int (0 : Int32)), .val (.int (own_t0_26 p0 p1 p2)), .val (.int (own_t0_36 p0 p1 p2)), .val (.int (own_t0_46 p0 p1 p2)), .unset, .unset] [(.int (1 : Int32))])) (fun t k => XS.iconst X8.her hx rfl (hb hby at_66) k) ?_
          refine own_st (f' := (mkF m 71 #[.val (.int p0), .val (.int p1), .val (.int p2), .val (.int (0 : Int32)), .val (.int (own_t0_26 p0 p1 p2)), .val (.int (own_t0_36 p0 p1 p2)), .val (.int (own_t0_46 p0 p1 p2)), .unset, .unset] [(.int (1 : Int32))])) (fun t k => XS.goto X8.her hx rfl (pc0 := 67) (pc' := 71) rfl (hb hby at_67) (by decide) (by decide) k) ?_
          refine own_st (f' := (mkF m 73 #[.val (.int p0), .val (.int p1), .val (.int p2), .val (.int (0 : Int32)), .val (.int (own_t0_26 p0 p1 p2)), .val (.int (own_t0_36 p0 p1 p2)), .val (.int (own_t0_46 p0 p1 p2)), .val (.int (1 : Int32)), .unset] [])) (fun t k => XS.istore X8.her hx rfl (hb hby at_71) rfl (l' := #[.val (.int p0), .val (.int p1), .val (.int p2), .val (.int (0 : Int32)), .val (.int (own_t0_26 p0 p1 p2)), .val (.int (own_t0_36 p0 p1 p2)), .val (.int (own_t0_46 p0 p1 p2)), .val (.int (1 : Int32)), .unset]) rfl k) ?_
          refine own_st (f' := (mkF m 75 #[.val (.int p0), .val (.int p1), .val (.int p2), .val (.int (0 : Int32)), .val (.int (own_t0_26 p0 p1 p2)), .val (.int (own_t0_36 p0 p1 p2)), .val (.int (own_t0_46 p0 p1 p2)), .val (.int (1 : Int32)), .unset] [(.int (own_t0_46 p0 p1 p2))])) (fun t k => XS.iload X8.her hx rfl (hb hby at_73) rfl k) ?_
          refine own_callSP (y := (⟨"com/example/bidwright/bidwright/game/FlightTrend", "isUpdateTime", "(I)Z"⟩ : MethodName)) (W := 0) [(.int (own_t0_46 p0 p1 p2))] X8 hx hZ hown (own_w0 hw) (own_w1 hw) (own_w2 hw) (own_w3 hw) (by decide) (own_c1 l Z a0 hw h0 n0 Z0 (own_t0_46 p0 p1 p2)) (by decide) (by decide) (by decide) (by decide) (by rw [hml]; rfl) own_pd0 rfl rfl (Nat.le_of_eq rfl) (hb hby at_75) ?_
          intro T28 X28
          show own_G p e below _ T28 (mkF m 78 #[.val (.int p0), .val (.int p1), .val (.int p2), .val (.int (0 : Int32)), .val (.int (own_t0_26 p0 p1 p2)), .val (.int (own_t0_36 p0 p1 p2)), .val (.int (own_t0_46 p0 p1 p2)), .val (.int (1 : Int32)), .unset] [(.int (own_F1 (own_t0_46 p0 p1 p2)))])
          refine own_st (f' := (mkF m 80 #[.val (.int p0), .val (.int p1), .val (.int p2), .val (.int (0 : Int32)), .val (.int (own_t0_26 p0 p1 p2)), .val (.int (own_t0_36 p0 p1 p2)), .val (.int (own_t0_46 p0 p1 p2)), .val (.int (1 : Int32)), .unset] [(.int (1 : Int32)), (.int (own_F1 (own_t0_46 p0 p1 p2)))])) (fun t k => XS.iload X28.her hx rfl (hb hby at_78) rfl k) ?_
          by_cases hc29 : (own_F1 (own_t0_46 p0 p1 p2)) = (1 : Int32)
          · refine own_st (f' := (mkF m 83 #[.val (.int p0), .val (.int p1), .val (.int p2), .val (.int (0 : Int32)), .val (.int (own_t0_26 p0 p1 p2)), .val (.int (own_t0_36 p0 p1 p2)), .val (.int (own_t0_46 p0 p1 p2)), .val (.int (1 : Int32)), .unset] [])) (fun t k => XS.icmpNo X28.her hx rfl (hb hby at_80) rfl (teq hc29).2 k) ?_
            refine own_st (f' := (mkF m 84 #[.val (.int p0), .val (.int p1), .val (.int p2), .val (.int (0 : Int32)), .val (.int (own_t0_26 p0 p1 p2)), .val (.int (own_t0_36 p0 p1 p2)), .val (.int (own_t0_46 p0 p1 p2)), .val (.int (1 : Int32)), .unset] [(.int (1 : Int32))])) (fun t k => XS.iconst X28.her hx rfl (hb hby at_83) k) ?_
            refine own_st (f' := (mkF m 88 #[.val (.int p0), .val (.int p1), .val (.int p2), .val (.int (0 : Int32)), .val (.int (own_t0_26 p0 p1 p2)), .val (.int (own_t0_36 p0 p1 p2)), .val (.int (own_t0_46 p0 p1 p2)), .val (.int (1 : Int32)), .unset] [(.int (1 : Int32))])) (fun t k => XS.goto X28.her hx rfl (pc0 := 84) (pc' := 88) rfl (hb hby at_84) (by decide) (by decide) k) ?_
            refine own_st (f' := (mkF m 90 #[.val (.int p0), .val (.int p1), .val (.int p2), .val (.int (0 : Int32)), .val (.int (own_t0_26 p0 p1 p2)), .val (.int (own_t0_36 p0 p1 p2)), .val (.int (own_t0_46 p0 p1 p2)), .val (.int (1 : Int32)), .val (.int (1 : Int32))] [])) (fun t k => XS.istore X28.her hx rfl (hb hby at_88) rfl (l' := #[.val (.int p0), .val (.int p1), .val (.int p2), .val (.int (0 : Int32)), .val (.int (own_t0_26 p0 p1 p2)), .val (.int (own_t0_36 p0 p1 p2)), .val (.int (own_t0_46 p0 p1 p2)), .val (.int (1 : Int32)), .val (.int (1 : Int32))]) rfl k) ?_
            refine own_st (f' := (mkF m 91 #[.val (.int p0), .val (.int p1), .val (.int p2), .val (.int (0 : Int32)), .val (.int (own_t0_26 p0 p1 p2)), .val (.int (own_t0_36 p0 p1 p2)), .val (.int (own_t0_46 p0 p1 p2)), .val (.int (1 : Int32)), .val (.int (1 : Int32))] [(.int (0 : Int32))])) (fun t k => XS.iloadN X28.her hx rfl (hb hby at_90) rfl k) ?_
            refine own_st (f' := (mkF m 103 #[.val (.int p0), .val (.int p1), .val (.int p2), .val (.int (0 : Int32)), .val (.int (own_t0_26 p0 p1 p2)), .val (.int (own_t0_36 p0 p1 p2)), .val (.int (own_t0_46 p0 p1 p2)), .val (.int (1 : Int32)), .val (.int (1 : Int32))] [])) (fun t k => XS.ifYes X28.her hx rfl (pc0 := 91) (pc' := 103) rfl (hb hby at_91) rfl ((if0 _ _).trans (teq (rfl : (0 : Int32) = (0 : Int32))).1) (by decide) (by decide) k) ?_
            refine own_st (f' := (mkF m 104 #[.val (.int p0), .val (.int p1), .val (.int p2), .val (.int (0 : Int32)), .val (.int (own_t0_26 p0 p1 p2)), .val (.int (own_t0_36 p0 p1 p2)), .val (.int (own_t0_46 p0 p1 p2)), .val (.int (1 : Int32)), .val (.int (1 : Int32))] [(.int (0 : Int32))])) (fun t k => XS.iconst X28.her hx rfl (hb hby at_103) k) ?_
            refine own_retN (t := .boolean) X28 hx hret hlk (by simp) (hb hby at_104) (by first | decide | omega) (by first | decide | omega) ?_
            exact congrArg (fun q => some (Value.int q)) (by unfold own_F0; rw [if_neg hc9, if_pos hc21, if_neg hc22, if_neg hc25, if_pos hc29]; first | done | exact by decide)
          · refine own_st (f' := (mkF m 87 #[.val (.int p0), .val (.int p1), .val (.int p2), .val (.int (0 : Int32)), .val (.int (own_t0_26 p0 p1 p2)), .val (.int (own_t0_36 p0 p1 p2)), .val (.int (own_t0_46 p0 p1 p2)), .val (.int (1 : Int32)), .unset] [])) (fun t k => XS.icmpYes X28.her hx rfl (pc0 := 80) (pc' := 87) rfl (hb hby at_80) rfl (feq hc29).2 (by decide) (by decide) k) ?_
            refine own_st (f' := (mkF m 88 #[.val (.int p0), .val (.int p1), .val (.int p2), .val (.int (0 : Int32)), .val (.int (own_t0_26 p0 p1 p2)), .val (.int (own_t0_36 p0 p1 p2)), .val (.int (own_t0_46 p0 p1 p2)), .val (.int (1 : Int32)), .unset] [(.int (0 : Int32))])) (fun t k => XS.iconst X28.her hx rfl (hb hby at_87) k) ?_
            refine own_st (f' := (mkF m 90 #[.val (.int p0), .val (.int p1), .val (.int p2), .val (.int (0 : Int32)), .val (.int (own_t0_26 p0 p1 p2)), .val (.int (own_t0_36 p0 p1 p2)), .val (.int (own_t0_46 p0 p1 p2)), .val (.int (1 : Int32)), .val (.int (0 : Int32))] [])) (fun t k => XS.istore X28.her hx rfl (hb hby at_88) rfl (l' := #[.val (.int p0), .val (.int p1), .val (.int p2), .val (.int (0 : Int32)), .val (.int (own_t0_26 p0 p1 p2)), .val (.int (own_t0_36 p0 p1 p2)), .val (.int (own_t0_46 p0 p1 p2)), .val (.int (1 : Int32)), .val (.int (0 : Int32))]) rfl k) ?_
            refine own_st (f' := (mkF m 91 #[.val (.int p0), .val (.int p1), .val (.int p2), .val (.int (0 : Int32)), .val (.int (own_t0_26 p0 p1 p2)), .val (.int (own_t0_36 p0 p1 p2)), .val (.int (own_t0_46 p0 p1 p2)), .val (.int (1 : Int32)), .val (.int (0 : Int32))] [(.int (0 : Int32))])) (fun t k => XS.iloadN X28.her hx rfl (hb hby at_90) rfl k) ?_
            refine own_st (f' := (mkF m 103 #[.val (.int p0), .val (.int p1), .val (.int p2), .val (.int (0 : Int32)), .val (.int (own_t0_26 p0 p1 p2)), .val (.int (own_t0_36 p0 p1 p2)), .val (.int (own_t0_46 p0 p1 p2)), .val (.int (1 : Int32)), .val (.int (0 : Int32))] [])) (fun t k => XS.ifYes X28.her hx rfl (pc0 := 91) (pc' := 103) rfl (hb hby at_91) rfl ((if0 _ _).trans (teq (rfl : (0 : Int32) = (0 : Int32))).1) (by decide) (by decide) k) ?_
            refine own_st (f' := (mkF m 104 #[.val (.int p0), .val (.int p1), .val (.int p2), .val (.int (0 : Int32)), .val (.int (own_t0_26 p0 p1 p2)), .val (.int (own_t0_36 p0 p1 p2)), .val (.int (own_t0_46 p0 p1 p2)), .val (.int (1 : Int32)), .val (.int (0 : Int32))] [(.int (0 : Int32))])) (fun t k => XS.iconst X28.her hx rfl (hb hby at_103) k) ?_
            refine own_retN (t := .boolean) X28 hx hret hlk (by simp) (hb hby at_104) (by first | decide | omega) (by first | decide | omega) ?_
            exact congrArg (fun q => some (Value.int q)) (by unfold own_F0; rw [if_neg hc9, if_pos hc21, if_neg hc22, if_neg hc25, if_neg hc29]; first | done | exact by decide)
    · refine own_st (f' := (mkF m 70 #[.val (.int p0), .val (.int p1), .val (.int p2), .val (.int (0 : Int32)), .val (.int (own_t0_26 p0 p1 p2)), .val (.int (own_t0_36 p0 p1 p2)), .val (.int (own_t0_46 p0 p1 p2)), .unset, .unset] [])) (fun t k => XS.ifYes X8.her hx rfl (pc0 := 50) (pc' := 70) rfl (hb hby at_50) rfl ((if0 _ _).trans (feq hc21).2) (by decide) (by decide) k) ?_
      refine own_st (f' := (mkF m 71 #[.val (.int p0), .val (.int p1), .val (.int p2), .val (.int (0 : Int32)), .val (.int (own_t0_26 p0 p1 p2)), .val (.int (own_t0_36 p0 p1 p2)), .val (.int (own_t0_46 p0 p1 p2)), .unset, .unset] [(.int (0 : Int32))])) (fun t k => XS.iconst X8.her hx rfl (hb hby at_70) k) ?_
      refine own_st (f' := (mkF m 73 #[.val (.int p0), .val (.int p1), .val (.int p2), .val (.int (0 : Int32)), .val (.int (own_t0_26 p0 p1 p2)), .val (.int (own_t0_36 p0 p1 p2)), .val (.int (own_t0_46 p0 p1 p2)), .val (.int (0 : Int32)), .unset] [])) (fun t k => XS.istore X8.her hx rfl (hb hby at_71) rfl (l' := #[.val (.int p0), .val (.int p1), .val (.int p2), .val (.int (0 : Int32)), .val (.int (own_t0_26 p0 p1 p2)), .val (.int (own_t0_36 p0 p1 p2)), .val (.int (own_t0_46 p0 p1 p2)), .val (.int (0 : Int32)), .unset]) rfl k) ?_
      refine own_st (f' := (mkF m 75 #[.val (.int p0), .val (.int p1), .val (.int p2), .val (.int (0 : Int32)), .val (.int (own_t0_26 p0 p1 p2)), .val (.int (own_t0_36 p0 p1 p2)), .val (.int (own_t0_46 p0 p1 p2)), .val (.int (0 : Int32)), .unset] [(.int (own_t0_46 p0 p1 p2))])) (fun t k => XS.iload X8.her hx rfl (hb hby at_73) rfl k) ?_
      refine own_callSP (y := (⟨"com/example/bidwright/bidwright/game/FlightTrend", "isUpdateTime", "(I)Z"⟩ : MethodName)) (W := 0) [(.int (own_t0_46 p0 p1 p2))] X8 hx hZ hown (own_w0 hw) (own_w1 hw) (own_w2 hw) (own_w3 hw) (by decide) (own_c1 l Z a0 hw h0 n0 Z0 (own_t0_46 p0 p1 p2)) (by decide) (by decide) (by decide) (by decide) (by rw [hml]; rfl) own_pd0 rfl rfl (Nat.le_of_eq rfl) (hb hby at_75) ?_
      intro T30 X30
      show own_G p e below _ T30 (mkF m 78 #[.val (.int p0), .val (.int p1), .val (.int p2), .val (.int (0 : Int32)), .val (.int (own_t0_26 p0 p1 p2)), .val (.int (own_t0_36 p0 p1 p2)), .val (.int (own_t0_46 p0 p1 p2)), .val (.int (0 : Int32)), .unset] [(.int (own_F1 (own_t0_46 p0 p1 p2)))])
      refine own_st (f' := (mkF m 80 #[.val (.int p0), .val (.int p1), .val (.int p2), .val (.int (0 : Int32)), .val (.int (own_t0_26 p0 p1 p2)), .val (.int (own_t0_36 p0 p1 p2)), .val (.int (own_t0_46 p0 p1 p2)), .val (.int (0 : Int32)), .unset] [(.int (0 : Int32)), (.int (own_F1 (own_t0_46 p0 p1 p2)))])) (fun t k => XS.iload X30.her hx rfl (hb hby at_78) rfl k) ?_
      by_cases hc31 : (own_F1 (own_t0_46 p0 p1 p2)) = (0 : Int32)
      · refine own_st (f' := (mkF m 83 #[.val (.int p0), .val (.int p1), .val (.int p2), .val (.int (0 : Int32)), .val (.int (own_t0_26 p0 p1 p2)), .val (.int (own_t0_36 p0 p1 p2)), .val (.int (own_t0_46 p0 p1 p2)), .val (.int (0 : Int32)), .unset] [])) (fun t k => XS.icmpNo X30.her hx rfl (hb hby at_80) rfl (teq hc31).2 k) ?_
        refine own_st (f' := (mkF m 84 #[.val (.int p0), .val (.int p1), .val (.int p2), .val (.int (0 : Int32)), .val (.int (own_t0_26 p0 p1 p2)), .val (.int (own_t0_36 p0 p1 p2)), .val (.int (own_t0_46 p0 p1 p2)), .val (.int (0 : Int32)), .unset] [(.int (1 : Int32))])) (fun t k => XS.iconst X30.her hx rfl (hb hby at_83) k) ?_
        refine own_st (f' := (mkF m 88 #[.val (.int p0), .val (.int p1), .val (.int p2), .val (.int (0 : Int32)), .val (.int (own_t0_26 p0 p1 p2)), .val (.int (own_t0_36 p0 p1 p2)), .val (.int (own_t0_46 p0 p1 p2)), .val (.int (0 : Int32)), .unset] [(.int (1 : Int32))])) (fun t k => XS.goto X30.her hx rfl (pc0 := 84) (pc' := 88) rfl (hb hby at_84) (by decide) (by decide) k) ?_
        refine own_st (f' := (mkF m 90 #[.val (.int p0), .val (.int p1), .val (.int p2), .val (.int (0 : Int32)), .val (.int (own_t0_26 p0 p1 p2)), .val (.int (own_t0_36 p0 p1 p2)), .val (.int (own_t0_46 p0 p1 p2)), .val (.int (0 : Int32)), .val (.int (1 : Int32))] [])) (fun t k => XS.istore X30.her hx rfl (hb hby at_88) rfl (l' := #[.val (.int p0), .val (.int p1), .val (.int p2), .val (.int (0 : Int32)), .val (.int (own_t0_26 p0 p1 p2)), .val (.int (own_t0_36 p0 p1 p2)), .val (.int (own_t0_46 p0 p1 p2)), .val (.int (0 : Int32)), .val (.int (1 : Int32))]) rfl k) ?_
        refine own_st (f' := (mkF m 91 #[.val (.int p0), .val (.int p1), .val (.int p2), .val (.int (0 : Int32)), .val (.int (own_t0_26 p0 p1 p2)), .val (.int (own_t0_36 p0 p1 p2)), .val (.int (own_t0_46 p0 p1 p2)), .val (.int (0 : Int32)), .val (.int (1 : Int32))] [(.int (0 : Int32))])) (fun t k => XS.iloadN X30.her hx rfl (hb hby at_90) rfl k) ?_
        refine own_st (f' := (mkF m 103 #[.val (.int p0), .val (.int p1), .val (.int p2), .val (.int (0 : Int32)), .val (.int (own_t0_26 p0 p1 p2)), .val (.int (own_t0_36 p0 p1 p2)), .val (.int (own_t0_46 p0 p1 p2)), .val (.int (0 : Int32)), .val (.int (1 : Int32))] [])) (fun t k => XS.ifYes X30.her hx rfl (pc0 := 91) (pc' := 103) rfl (hb hby at_91) rfl ((if0 _ _).trans (teq (rfl : (0 : Int32) = (0 : Int32))).1) (by decide) (by decide) k) ?_
        refine own_st (f' := (mkF m 104 #[.val (.int p0), .val (.int p1), .val (.int p2), .val (.int (0 : Int32)), .val (.int (own_t0_26 p0 p1 p2)), .val (.int (own_t0_36 p0 p1 p2)), .val (.int (own_t0_46 p0 p1 p2)), .val (.int (0 : Int32)), .val (.int (1 : Int32))] [(.int (0 : Int32))])) (fun t k => XS.iconst X30.her hx rfl (hb hby at_103) k) ?_
        refine own_retN (t := .boolean) X30 hx hret hlk (by simp) (hb hby at_104) (by first | decide | omega) (by first | decide | omega) ?_
        exact congrArg (fun q => some (Value.int q)) (by unfold own_F0; rw [if_neg hc9, if_neg hc21, if_pos hc31]; first | done | exact by decide)
      · refine own_st (f' := (mkF m 87 #[.val (.int p0), .val (.int p1), .val (.int p2), .val (.int (0 : Int32)), .val (.int (own_t0_26 p0 p1 p2)), .val (.int (own_t0_36 p0 p1 p2)), .val (.int (own_t0_46 p0 p1 p2)), .val (.int (0 : Int32)), .unset] [])) (fun t k => XS.icmpYes X30.her hx rfl (pc0 := 80) (pc' := 87) rfl (hb hby at_80) rfl (feq hc31).2 (by decide) (by decide) k) ?_
        refine own_st (f' := (mkF m 88 #[.val (.int p0), .val (.int p1), .val (.int p2), .val (.int (0 : Int32)), .val (.int (own_t0_26 p0 p1 p2)), .val (.int (own_t0_36 p0 p1 p2)), .val (.int (own_t0_46 p0 p1 p2)), .val (.int (0 : Int32)), .unset] [(.int (0 : Int32))])) (fun t k => XS.iconst X30.her hx rfl (hb hby at_87) k) ?_
        refine own_st (f' := (mkF m 90 #[.val (.int p0), .val (.int p1), .val (.int p2), .val (.int (0 : Int32)), .val (.int (own_t0_26 p0 p1 p2)), .val (.int (own_t0_36 p0 p1 p2)), .val (.int (own_t0_46 p0 p1 p2)), .val (.int (0 : Int32)), .val (.int (0 : Int32))] [])) (fun t k => XS.istore X30.her hx rfl (hb hby at_88) rfl (l' := #[.val (.int p0), .val (.int p1), .val (.int p2), .val (.int (0 : Int32)), .val (.int (own_t0_26 p0 p1 p2)), .val (.int (own_t0_36 p0 p1 p2)), .val (.int (own_t0_46 p0 p1 p2)), .val (.int (0 : Int32)), .val (.int (0 : Int32))]) rfl k) ?_
        refine own_st (f' := (mkF m 91 #[.val (.int p0), .val (.int p1), .val (.int p2), .val (.int (0 : Int32)), .val (.int (own_t0_26 p0 p1 p2)), .val (.int (own_t0_36 p0 p1 p2)), .val (.int (own_t0_46 p0 p1 p2)), .val (.int (0 : Int32)), .val (.int (0 : Int32))] [(.int (0 : Int32))])) (fun t k => XS.iloadN X30.her hx rfl (hb hby at_90) rfl k) ?_
        refine own_st (f' := (mkF m 103 #[.val (.int p0), .val (.int p1), .val (.int p2), .val (.int (0 : Int32)), .val (.int (own_t0_26 p0 p1 p2)), .val (.int (own_t0_36 p0 p1 p2)), .val (.int (own_t0_46 p0 p1 p2)), .val (.int (0 : Int32)), .val (.int (0 : Int32))] [])) (fun t k => XS.ifYes X30.her hx rfl (pc0 := 91) (pc' := 103) rfl (hb hby at_91) rfl ((if0 _ _).trans (teq (rfl : (0 : Int32) = (0 : Int32))).1) (by decide) (by decide) k) ?_
        refine own_st (f' := (mkF m 104 #[.val (.int p0), .val (.int p1), .val (.int p2), .val (.int (0 : Int32)), .val (.int (own_t0_26 p0 p1 p2)), .val (.int (own_t0_36 p0 p1 p2)), .val (.int (own_t0_46 p0 p1 p2)), .val (.int (0 : Int32)), .val (.int (0 : Int32))] [(.int (0 : Int32))])) (fun t k => XS.iconst X30.her hx rfl (hb hby at_103) k) ?_
        refine own_retN (t := .boolean) X30 hx hret hlk (by simp) (hb hby at_104) (by first | decide | omega) (by first | decide | omega) ?_
        exact congrArg (fun q => some (Value.int q)) (by unfold own_F0; rw [if_neg hc9, if_neg hc21, if_neg hc31]; first | done | exact by decide)
/-- the plain law -/
theorem own_f1 (t : Int32) : own_F1 t = if 10 ≤ t.toInt ∧ t.toInt ≤ 530 ∧ t.toInt % 10 = 0 then 1 else 0 := by
  have z : (10 : Int32).toInt = 10 := rfl
  have z2 : (530 : Int32).toInt = 530 := rfl
  have z3 : (0 : Int32).toInt = 0 := rfl
  unfold own_F1
  by_cases h : t < 10
  · rw [if_pos h, if_neg]
    rw [Int32.lt_iff_toInt_lt] at h
    omega
  · rw [if_neg h]
    rw [Int32.lt_iff_toInt_lt] at h
    have r : (t % 10).toInt = t.toInt % 10 := by rw [Jvm.Kit.i32_rem_nonneg (by omega), z]
    simp only [← Int32.toInt_inj, Int32.lt_iff_toInt_lt, r, z2, z3]
    repeat' split
    all_goals first | rfl | (exfalso; omega)
theorem own_f2 (t : Int32) : own_F2 t = if 10 ≤ t.toInt ∧ t.toInt ≤ 530 ∧ t.toInt % 10 = 0 then 1 else 0 := by
  have z : (10 : Int32).toInt = 10 := rfl
  have z2 : (53 : Int32).toInt = 53 := rfl
  have z3 : (1 : Int32).toInt = 1 := rfl
  have b1 := t.toInt_lt
  have b2 := t.le_toInt
  have d : (t / 10).toInt = t.toInt.tdiv 10 := by rw [Jvm.Kit.i32_div (fun h => absurd h.2 (by decide)), z]
  have d2 : (0 ≤ t.toInt ∧ t.toInt.tdiv 10 = t.toInt / 10) ∨ (t.toInt < 0 ∧ t.toInt.tdiv 10 = -((-t.toInt) / 10)) := by
    by_cases h : 0 ≤ t.toInt
    · exact Or.inl ⟨h, Int.tdiv_eq_ediv_of_nonneg h⟩
    · refine Or.inr ⟨by omega, ?_⟩
      rw [← Int.tdiv_eq_ediv_of_nonneg (by omega : 0 ≤ -t.toInt), Int.neg_tdiv, Int.neg_neg]
  have e : ((t / 10) * 10).toInt = (t / 10).toInt * 10 := by rw [Jvm.Kit.i32_mul (by rw [z]; omega) (by rw [z]; omega), z]
  unfold own_F2
  simp only [← Int32.toInt_inj, Int32.lt_iff_toInt_lt, e, d, z2, z3]
  repeat' split
  all_goals first | rfl | (exfalso; omega)
theorem own_law (p0 p1 p2 : Int32) : own_F0 p0 p1 p2 = 1 := by
  have m1 : (p1 &&& 2147483647).toInt = p1.toInt % 2 ^ 31 := Jvm.Kit.i32_mask p1 2147483647 (k := 31) (by decide) (by decide)
  have m2 : (p2 &&& 2147483647).toInt = p2.toInt % 2 ^ 31 := Jvm.Kit.i32_mask p2 2147483647 (k := 31) (by decide) (by decide)
  have z60 : (60 : Int32).toInt = 60 := rfl
  have z3 : (3 : Int32).toInt = 3 := rfl
  have z1 : (1 : Int32).toInt = 1 := rfl
  have z0 : (0 : Int32).toInt = 0 := rfl
  have z10 : (10 : Int32).toInt = 10 := rfl
  have z53 : (53 : Int32).toInt = 53 := rfl
  have r1 : ((p1 &&& 2147483647) % 60).toInt = (p1 &&& 2147483647).toInt % 60 := by rw [Jvm.Kit.i32_rem_nonneg (by omega), z60]
  have r2 : ((p2 &&& 2147483647) % 3).toInt = (p2 &&& 2147483647).toInt % 3 := by rw [Jvm.Kit.i32_rem_nonneg (by omega), z3]
  have s1 : (own_t0_26 p0 p1 p2).toInt = (p1 &&& 2147483647).toInt % 60 - 3 := by
    show (((p1 &&& 2147483647) % 60) - 3).toInt = _
    rw [Jvm.Kit.i32_sub (by omega) (by omega), r1, z3]
  have s2 : (own_t0_36 p0 p1 p2).toInt = (p2 &&& 2147483647).toInt % 3 - 1 := by
    show (((p2 &&& 2147483647) % 3) - 1).toInt = _
    rw [Jvm.Kit.i32_sub (by omega) (by omega), r2, z1]
  have s3 : (own_t0_46 p0 p1 p2).toInt = (own_t0_26 p0 p1 p2).toInt * 10 + (own_t0_36 p0 p1 p2).toInt := by
    have e : (own_t0_26 p0 p1 p2 * 10).toInt = (own_t0_26 p0 p1 p2).toInt * 10 := by rw [Jvm.Kit.i32_mul (by rw [z10]; omega) (by rw [z10]; omega), z10]
    show ((own_t0_26 p0 p1 p2 * 10) + own_t0_36 p0 p1 p2).toInt = _
    rw [Jvm.Kit.i32_add (by omega) (by omega), e]
  unfold own_F0
  rw [if_pos ((own_f1 p0).trans (own_f2 p0).symm), own_f1]
  generalize own_t0_46 p0 p1 p2 = u at *
  generalize own_t0_36 p0 p1 p2 = o at *
  generalize own_t0_26 p0 p1 p2 = q at *
  simp only [← Int32.toInt_inj, Int32.lt_iff_toInt_lt, z0, z1, z53]
  repeat' split
  all_goals first | rfl | (exfalso; omega) | (exfalso; simp_all; omega)
set_option maxRecDepth 65536 in
set_option maxHeartbeats 40000000 in
theorem own_comes {Post : Tables → Env → Array Value → State → Outcome → State → Prop} (hpost : ∀ tb e args s v u, (limb_1_1.after args s (.returned v) u = true ∧ limb_1_2.after args s (.returned v) u = true) → FrameEnd s (.returned v) u (Jvm.fieldLocs frame_1_writes args s ++ Jvm.arrayLocs frame_1_arrays args s ++ Jvm.staticLocs frame_1_statics s) 0 0 → Post tb e args s (.returned v) u) :
    ArmFor flags0 classFile x code maxLocals ret World_1 tables_1 room_1 Calls_1 rest_1 Pre_1 Post := by
  intro l hfl _ _ p e ha hc hk s m args below hf hA hF happ hP
  obtain ⟨hcalls, hrest, hpre⟩ := hP
  obtain ⟨-, -, -, hnamed, -, -, -, hat⟩ := (Spec.applies_iff hf).mp happ
  obtain ⟨hg, hn⟩ := and_e (Cond.before_iff.mp (show (Jvm.Cond.and given_1 narrow_1).before args s = true from hpre))
  obtain ⟨g32, g33⟩ := and_e hg
  obtain ⟨g34, g35⟩ := and_e g33
  obtain ⟨g36, g37⟩ := and_e g35
  obtain ⟨w0, w1, w2, rfl⟩ : ∃ w0 w1 w2 : Value, args = #[w0, w1, w2] := by
    have hs : args.size = 3 := by simpa [Cond.value, given_1] using g32
    obtain ⟨L⟩ := args
    match L, hs with
    | [w0, w1, w2], _ => exact ⟨w0, w1, w2, rfl⟩
  have hw := fun d (hd : d ∈ tables_1) => atoms_spec (ws := Jvm.Cond.code x code maxLocals ret :: tables_1) hat d (List.mem_cons_of_mem _ hd)
  obtain ⟨i0, ei0⟩ := is_v g34
  obtain rfl : w0 = (.int i0) := Option.some.inj ei0
  obtain ⟨i1, ei1⟩ := is_v g36
  obtain rfl : w1 = (.int i1) := Option.some.inj ei1
  obtain ⟨i2, ei2⟩ := is_v g37
  obtain rfl : w2 = (.int i2) := Option.some.inj ei2
  obtain ⟨n, o, h1, h2, h3, v, L, rfl, ⟨N, -, hv⟩, hq⟩ := own_c0 l s _ hw s.heap s.heap.size (Nat.le_refl _) i0 i1 i2 p e ha hc hk s m _ below hf ((Spec.applies_iff_loose hf).mp happ).1 ⟨rfl, State.Warmed39.refl s, rfl⟩ trivial
  obtain rfl : v = some (.int 1) := by rw [hv, own_law]
  refine ⟨n, _, h1, h2, h3, hpost _ _ _ _ _ _ ⟨Cond.after_iff.mpr rfl, Cond.after_iff.mpr (eq_i res_at (Term.int_eval (1)) rfl)⟩ ⟨hq.1, hq.2.1, (hq.2.2.sift fun y hy => Or.inr (N y hy)).mono (by decide) (by decide)⟩⟩
theorem main_1_1 : Claimed_1_1 := own_comes fun _ _ _ _ _ _ h hF => ⟨h.1, hF⟩
theorem main_1_2 : Claimed_1_2 := own_comes fun _ _ _ _ _ _ h hF => ⟨h.2, hF⟩
end Jvm.Pilot.@@N@@
namespace Jvm.Pilot.@@N@@
open Jvm Jvm.ClassFile Sem Op Lib Jvm.Free Jvm.Stand Jvm.Pilot.@@N@@.Jvm.D
/-! MADE BY PROGRAM (witnessworld.py) out of the Statement's table words and the real class files: 10 classes; the members and pool entries that the words name. The judged class is class 1, her method 2. -/
namespace start1
open Jvm.ClassFile
def u (s : String) : CpInfo := .utf8 (stringToUtf16 s)
/-- a pool by its gaps: so many unusable entries, then the entry; so many at the end -/
def gap : Nat → List CpInfo → List CpInfo
  | 0, r => r
  | n + 1, r => .unusable :: gap n r
def poolList (es : List (Nat × CpInfo)) (last : Nat) : List CpInfo := es.foldr (fun e r => gap e.1 (e.2 :: r)) (gap last [])
def pool (es : List (Nat × CpInfo)) (last : Nat) : Array CpInfo := ⟨poolList es last⟩
def fileOf (pool : Array CpInfo) (this : Nat) (attrs : Array Attribute := #[]) (ms : Array MethodInfo := #[]) (fl : Nat := 33) (sup : Nat := 0) (ifs : Array Nat := #[]) (fds : Array FieldInfo := #[]) : ClassFile where
  minorVersion := 0
  majorVersion := 65
  constantPool := pool
  accessFlags := fl
  thisClass := this
  superClass := sup
  interfaces := ifs
  fields := fds
  methods := ms
  attributes := attrs
def plain (name : String) (sup : Option ClassId) : Class where
  name := name
  kind := .ordinary
  loader := none
  accessFlags := 33
  super := sup
  interfaces := #[]
  cf := none
  fields := #[]
  methods := #[]
  instanceTypes := #[]
  staticTypes := #[]
  resolved := #[]
  callSites := []
  init := .initialized
  statics := none
  mirror := none

def pool0 : Array CpInfo := pool [(5, u "<init>"), (0, u "()V"), (1, .class_ 10), (1, u "java/lang/Object")] 113

def k0m0 : Method := { name := "<init>", desc := "()V", sig := { parameters := [], returnType := none }, accessFlags := 1, code := none }
/-- java/lang/Object -/
def k0 : Class := { plain "java/lang/Object" none with
  accessFlags := 33
  interfaces := #[]
  cf := some (fileOf pool0 8 #[] #[{ accessFlags := 1, nameIndex := 5, descriptorIndex := 6, attributes := #[] }] 33 0 #[] #[])
  fields := #[]
  methods := #[k0m0]
  instanceTypes := #[]
  staticTypes := #[]
  resolved := Array.replicate 124 none
  statics := none }

def pool1 : Array CpInfo := pool [(2, .class_ 4), (1, u "java/lang/Object"), (0, u "<init>"), (0, u "()V"), (0, .methodref 8 9), (0, .class_ 10), (0, .nameAndType 11 12), (0, u "com/example/bidwright/bidwright/game/FlightTrend"), (0, u "isUpdateTime"), (0, u "(I)Z"), (0, .methodref 14 15), (0, .class_ 16), (0, .nameAndType 17 12), (0, u "com/example/bidwright/bidwright/game/FlightTrendIsUpdateTimePinLaw"), (0, u "expected"), (0, .integer 2147483647), (3, u "law"), (0, u "(III)Z")] 2

def k1m0 : Method := { name := "<init>", desc := "()V", sig := { parameters := [], returnType := none }, accessFlags := 1, code := none }
def k1c1 : Code := { maxStack := 3, maxLocals := 2, code := method_2_code, exceptionTable := #[], attributes := #[] }
def k1m1 : Method := { name := "expected", desc := "(I)Z", sig := { parameters := [.int], returnType := some .boolean }, accessFlags := 10, code := some k1c1 }
def k1c2 : Code := { maxStack := 2, maxLocals := 9, code := code, exceptionTable := #[], attributes := #[] }
def k1m2 : Method := { name := "law", desc := "(III)Z", sig := { parameters := [.int, .int, .int], returnType := some .boolean }, accessFlags := 9, code := some k1c2 }
/-- com/example/bidwright/bidwright/game/FlightTrendIsUpdateTimePinLaw -/
def k1 : Class := { plain "com/example/bidwright/bidwright/game/FlightTrendIsUpdateTimePinLaw" (some 0) with
  accessFlags := 49
  interfaces := #[]
  cf := some (fileOf pool1 14 #[] #[{ accessFlags := 1, nameIndex := 5, descriptorIndex := 6, attributes := #[] }, { accessFlags := 10, nameIndex := 17, descriptorIndex := 12, attributes := #[] }, { accessFlags := 9, nameIndex := 22, descriptorIndex := 23, attributes := #[] }] 49 2 #[] #[])
  fields := #[]
  methods := #[k1m0, k1m1, k1m2]
  instanceTypes := #[]
  staticTypes := #[]
  resolved := Array.replicate 26 none
  statics := none }

def pool2 : Array CpInfo := pool [(2, .class_ 4), (1, u "java/lang/Object"), (0, u "<init>"), (0, u "()V"), (0, .class_ 8), (0, u "java/lang/Record")] 13

def k2m0 : Method := { name := "<init>", desc := "()V", sig := { parameters := [], returnType := none }, accessFlags := 4, code := none }
/-- java/lang/Record -/
def k2 : Class := { plain "java/lang/Record" (some 0) with
  accessFlags := 1057
  interfaces := #[]
  cf := some (fileOf pool2 7 #[] #[{ accessFlags := 4, nameIndex := 5, descriptorIndex := 6, attributes := #[] }] 1057 2 #[] #[])
  fields := #[]
  methods := #[k2m0]
  instanceTypes := #[]
  staticTypes := #[]
  resolved := Array.replicate 22 none
  statics := none }

def pool3 : Array CpInfo := pool [(2, .class_ 4), (1, u "java/lang/Record"), (3, .class_ 10), (1, u "com/example/bidwright/bidwright/game/FlightTrend"), (4, u "z"), (0, u "I"), (65, u "MIN_Z"), (2, u "MAX_Z"), (1, u "MIN_PRICE"), (1, u "MAX_PRICE"), (1, u "TEN"), (10, u "isUpdateTime"), (0, u "(I)Z")] 32

def k3c0 : Code := { maxStack := 2, maxLocals := 1, code := prog_69_method_7_code, exceptionTable := #[], attributes := #[] }
def k3m0 : Method := { name := "isUpdateTime", desc := "(I)Z", sig := { parameters := [.int], returnType := some .boolean }, accessFlags := 9, code := some k3c0 }
/-- com/example/bidwright/bidwright/game/FlightTrend -/
def k3 : Class := { plain "com/example/bidwright/bidwright/game/FlightTrend" (some 2) with
  accessFlags := 49
  interfaces := #[]
  cf := some (fileOf pool3 8 #[] #[{ accessFlags := 9, nameIndex := 102, descriptorIndex := 103, attributes := #[] }] 49 2 #[] #[{ accessFlags := 18, nameIndex := 15, descriptorIndex := 16, attributes := #[] }, { accessFlags := 25, nameIndex := 82, descriptorIndex := 16, attributes := #[] }, { accessFlags := 25, nameIndex := 85, descriptorIndex := 16, attributes := #[] }, { accessFlags := 25, nameIndex := 87, descriptorIndex := 16, attributes := #[] }, { accessFlags := 25, nameIndex := 89, descriptorIndex := 16, attributes := #[] }, { accessFlags := 26, nameIndex := 91, descriptorIndex := 16, attributes := #[] }])
  fields := #[{ name := "z", type := .int, accessFlags := 18, slot := 0, constantValue := 0 }, { name := "MIN_Z", type := .int, accessFlags := 25, slot := 0, constantValue := 0 }, { name := "MAX_Z", type := .int, accessFlags := 25, slot := 1, constantValue := 0 }, { name := "MIN_PRICE", type := .int, accessFlags := 25, slot := 2, constantValue := 0 }, { name := "MAX_PRICE", type := .int, accessFlags := 25, slot := 3, constantValue := 0 }, { name := "TEN", type := .int, accessFlags := 26, slot := 4, constantValue := 0 }]
  methods := #[k3m0]
  instanceTypes := #[.int]
  staticTypes := #[.int, .int, .int, .int, .int]
  resolved := Array.replicate 136 none
  statics := none }

def pool4 : Array CpInfo := pool [(1, u "java/lang/Cloneable"), (0, .class_ 1), (0, u "java/lang/Object"), (0, .class_ 3)] 3

/-- java/lang/Cloneable -/
def k4 : Class := { plain "java/lang/Cloneable" (some 0) with
  accessFlags := 1537
  interfaces := #[]
  cf := some (fileOf pool4 2 #[] #[] 1537 4 #[] #[])
  fields := #[]
  methods := #[]
  instanceTypes := #[]
  staticTypes := #[]
  resolved := Array.replicate 8 none
  statics := none }

def pool5 : Array CpInfo := pool [(1, u "java/io/Serializable"), (0, .class_ 1), (0, u "java/lang/Object"), (0, .class_ 3)] 3

/-- java/io/Serializable -/
def k5 : Class := { plain "java/io/Serializable" (some 0) with
  accessFlags := 1537
  interfaces := #[]
  cf := some (fileOf pool5 2 #[] #[] 1537 4 #[] #[])
  fields := #[]
  methods := #[]
  instanceTypes := #[]
  staticTypes := #[]
  resolved := Array.replicate 8 none
  statics := none }

/-- the primitive byte -/
def k6 : Class := { plain "byte" none with kind := .primitive 'B', accessFlags := 0x411 }
/-- [B -/
def k7 : Class := { plain "[B" (some 0) with kind := .array 6 .byte, interfaces := #[4, 5], accessFlags := 1041 }

/-- the primitive int -/
def k8 : Class := { plain "int" none with kind := .primitive 'I', accessFlags := 0x411 }
/-- [I -/
def k9 : Class := { plain "[I" (some 0) with kind := .array 8 .int, interfaces := #[4, 5], accessFlags := 1041 }

def heap : Heap := #[]
def classes : Array Class := #[k0, k1, k2, k3, k4, k5, k6, k7, k8, k9]
def interned : List (Array UInt16 × Addr) := []
def slotsUsed : Nat := 0
def theMethod : MethodId := ⟨1, 2⟩
def args0 : Array Value := #[.int 7, .int 1, .int 5]
def aboutOver (below : List Frame) : State where
  vm := { classes := classes, interned := interned.toArray }
  heap := heap
  slotsUsed := slotsUsed
  threads := #[{ frames := .invoking theMethod args0 :: below }]
def below0 : List Frame := [.native { method := ⟨0, 0⟩, args := #[] }]
def about1 : State := aboutOver below0
def p0 : Program := .bare "" "" ""
def e0 : Env := launch0.env 0 0 0
theorem w_frames : about1.frames = Frame.invoking theMethod args0 :: below0 := rfl
set_option maxRecDepth 65536 in
theorem w_args : argsFit about1.vm theMethod args0 = true := by decide +kernel
set_option maxRecDepth 65536 in
theorem w_heap : heapFits about1 = true := by decide +kernel
set_option maxRecDepth 65536 in
theorem w_runnable : about1.curStatus? = some .runnable := by decide +kernel
set_option maxRecDepth 65536 in
theorem w_alone : about1.alone = true := by decide +kernel
set_option maxRecDepth 65536 in
theorem w_named : about1.methodNamed? x = some theMethod := by decide +kernel
set_option maxRecDepth 65536 in
theorem w_hears : about1.hears theMethod below0 = true := by decide +kernel
set_option maxRecDepth 65536 in
theorem w_ripe : about1.ripe theMethod args0 below0 = true := by decide +kernel
theorem w_running : about1.status = .running := rfl
set_option maxRecDepth 65536 in
theorem w_room : about1.hasRoom e0.platform room_1 = true :=
  launch0.hasRoom_least _ room_1 (by decide +kernel) (by decide +kernel) (by decide +kernel) (by decide +kernel) (by decide +kernel) (by decide +kernel)
theorem allAtoms_all (ts : List Jvm.Cond) (a : Array Jvm.Value) (st : Jvm.State) : (allAtoms ts).before a st = ts.all (fun c => c.before a st) := by
  induction ts with
  | nil => rfl
  | cons c t ih =>
    show (Jvm.Cond.and c (allAtoms t)).before a st = _
    rw [Jvm.Cond.before_and, ih, List.all_cons]
def words1 : List Jvm.Cond := Jvm.Cond.code x code maxLocals ret :: tables_1
/-- a 'code' word, met by the world's own term for the bytes: nothing is compared byte by byte -/
theorem code_word {y : MethodName} {bytes : ByteArray} {mx : Nat} {rt : Option FieldType} {a : Array Value} {s : State} {m : MethodId} {meth : Method} {c : Code} (h1 : s.methodNamed? y = some m) (h2 : s.vm.method? m = some meth) (h3 : meth.code = some c) (h4 : c.code = bytes)
    (h5 : (c.maxLocals == mx && c.exceptionTable.isEmpty && decide (c.maxStack ≤ mostOperands) && decide (meth.sig.returnType = rt) && !meth.locks && decide (parseMethodDescriptor y.desc = some meth.sig)) = true) : (Jvm.Cond.code y bytes mx rt).before a s = true := by
  simp only [Bool.and_eq_true, beq_iff_eq, Bool.not_eq_true', decide_eq_true_eq] at h5
  obtain ⟨⟨⟨⟨⟨g1, g2⟩, g3⟩, g4⟩, g5⟩, g6⟩ := h5
  simp [Cond.before, Cond.holds, Cond.value, h1, h2, h3, h4, g1, g2, g3, g4, g5, g6]
def isCode : Jvm.Cond → Bool
  | .code _ _ _ _ => true
  | _ => false
theorem all_split {L : List Jvm.Cond} {P : Jvm.Cond → Bool} (h1 : L.all (fun c => isCode c || P c) = true) (h2 : ∀ c ∈ L.filter isCode, P c = true) : L.all P = true := by
  refine List.all_eq_true.mpr fun c hc => ?_
  have h := List.all_eq_true.mp h1 c hc
  rcases Bool.eq_false_or_eq_true (isCode c) with hi | hi
  · exact h2 c (List.mem_filter.mpr ⟨hc, hi⟩)
  · simpa [hi] using h
set_option maxRecDepth 65536 in
theorem w_c0 : (Jvm.Cond.code x code maxLocals ret).before args0 about1 = true := code_word (m := ⟨1, 2⟩) (meth := k1m2) (c := k1c2) (by decide +kernel) rfl rfl rfl (by decide +kernel)
set_option maxRecDepth 65536 in
theorem w_c1 : (Jvm.Cond.code ({ cls := "com/example/bidwright/bidwright/game/FlightTrend", name := "isUpdateTime", desc := "(I)Z" } : Jvm.MethodName) prog_69_method_7_code (1 : Nat) (Option.some Jvm.ClassFile.FieldType.boolean)).before args0 about1 = true := code_word (m := ⟨3, 0⟩) (meth := k3m0) (c := k3c0) (by decide +kernel) rfl rfl rfl (by decide +kernel)
set_option maxRecDepth 65536 in
theorem w_c2 : (Jvm.Cond.code ({ cls := "com/example/bidwright/bidwright/game/FlightTrendIsUpdateTimePinLaw", name := "expected", desc := "(I)Z" } : Jvm.MethodName) method_2_code (2 : Nat) (Option.some Jvm.ClassFile.FieldType.boolean)).before args0 about1 = true := code_word (m := ⟨1, 1⟩) (meth := k1m1) (c := k1c1) (by decide +kernel) rfl rfl rfl (by decide +kernel)
def codes1 : List Jvm.Cond := [Jvm.Cond.code x code maxLocals ret, Jvm.Cond.code ({ cls := "com/example/bidwright/bidwright/game/FlightTrend", name := "isUpdateTime", desc := "(I)Z" } : Jvm.MethodName) prog_69_method_7_code (1 : Nat) (Option.some Jvm.ClassFile.FieldType.boolean), Jvm.Cond.code ({ cls := "com/example/bidwright/bidwright/game/FlightTrendIsUpdateTimePinLaw", name := "expected", desc := "(I)Z" } : Jvm.MethodName) method_2_code (2 : Nat) (Option.some Jvm.ClassFile.FieldType.boolean)]
set_option maxRecDepth 65536 in
theorem codes_eq : words1.filter isCode = codes1 := rfl
theorem w_codes : ∀ c ∈ words1.filter isCode, c.before args0 about1 = true := by
  rw [codes_eq]
  intro c hc
  simp only [codes1, List.mem_cons, List.not_mem_nil, or_false] at hc
  rcases hc with rfl | rfl | rfl
  · exact w_c0
  · exact w_c1
  · exact w_c2
set_option maxRecDepth 65536 in
theorem w_t1 : words1.all (fun c => isCode c || c.before args0 about1) = true := by decide +kernel
theorem w_tables : (allAtoms (Jvm.Cond.code x code maxLocals ret :: tables_1)).before args0 about1 = true := by
  rw [allAtoms_all]
  show words1.all (fun c => c.before args0 about1) = true
  refine all_split ?_ w_codes
  rw [w_t1]
set_option maxRecDepth 65536 in
theorem w_case : (Jvm.Cond.and given_1 narrow_1).before args0 about1 = true := by decide +kernel
theorem w_applies : (headSpec (Jvm.Cond.code x code maxLocals ret :: tables_1) room_1).applies x e0.platform about1 = true :=
  (Spec.applies_iff w_frames).mpr ⟨w_running, w_runnable, w_alone, w_named, w_hears, w_ripe, w_room, w_tables⟩
theorem atStart : AtStart classFile x code maxLocals ret World_1 tables_1 room_1 Calls_1 rest_1 Pre_1 launch0 p0 e0 about1 theMethod args0 below0 :=
  ⟨lists_1, trivial, launch0.admits_env _ _ _, launch0.least_env, fairChoices_fair.cas, fairChoices_fair.clock, w_frames, w_args, w_heap, w_applies, trivial, trivial, w_case⟩
end start1
theorem witness_1 : WitnessClaimed_1 := ⟨start1.p0, start1.e0, start1.about1, start1.theMethod, start1.args0, start1.below0, start1.atStart⟩
end Jvm.Pilot.@@N@@
