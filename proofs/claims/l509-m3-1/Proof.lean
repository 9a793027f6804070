import JvmDerived
import JvmDerived.Pilot.@@N@@Statement
import JvmDerived.Pilot.@@N@@Code
set_option linter.unusedVariables false
set_option linter.unusedSimpArgs false
@@BLOCK:NumsL.lean.txt@@
namespace Jvm.Pilot.@@N@@
open Jvm Jvm.ClassFile Sem Op Lib Jvm.Free Jvm.Stand Jvm.LawKit Jvm.RoadKit Bundle Jvm.Pilot.@@N@@.Jvm.D
section Own
variable {p : Program} {l : Launch} {e : Env} {R : Room} {s : State} {m : MethodId} {args : Array Value} {below : List Frame} {meth : Method} {c : Code} {T T' : State} {locs : List Loc} {cells slots : Nat} {Z : State} {h h' h0 : Heap} {n0 : Nat} {ws : List Addr} {a0 : Array Value}
/-- what is still to be shown: from this frame the run ends as G says -/
def own_G (p : Program) (e : Env) (below : List Frame) (G : Outcome → State → Prop) (T : State) (f : JFrame) : Prop :=
  ∃ s₂ o, Steps p.tables e below (T.setTop f) s₂ ∧ s₂.status = .running ∧ Ended s₂ below o ∧ G o s₂
theorem own_st {G : Outcome → State → Prop} {f f' : JFrame} (q : ∀ t, Steps p.tables e below (T'.setTop f') t → Steps p.tables e below (T.setTop f) t) (k : own_G p e below G T' f') : own_G p e below G T f := by
  obtain ⟨a, o, r1, r2⟩ := k
  exact ⟨a, o, q a r1, r2⟩
theorem own_cast {G : Outcome → State → Prop} {f f' : JFrame} (q : f = f') (k : own_G p e below G T f') : own_G p e below G T f := q ▸ k
def own_D (s : State) (Q : Option Value → Heap → List Loc → Prop) (C S : Nat) (o : Outcome) (U : State) : Prop := ∃ v L, o = .returned v ∧ Q v U.heap L ∧ FrameEnd s o U L C S
def own_Q (n0 : Nat) (h0 : Heap) (ws : List Addr) (P : Option Value → Heap → Prop) (v : Option Value) (h : Heap) (L : List Loc) : Prop := Fr n0 L ∧ Keep h0 h ws ∧ P v h
def own_M (l : Launch) (y : MethodName) (code : ByteArray) (maxL : Nat) (ret : Option FieldType) (wd : List Jvm.Cond) (rm : Room) (Z : State) (as : Array Value) (h0 : Heap) (Q : Option Value → Heap → List Loc → Prop) : Prop :=
  MetFree l y (head1 (Jvm.Cond.code y code maxL ret :: wd) rm) (fun a U => a = as ∧ Z.Warmed39 U.vm ∧ U.heap = h0) (fun _ _ _ _ _ => True) (fun _ U o U' => ∃ v L, o = .returned v ∧ Q v U'.heap L ∧ FrameEnd U o U' L rm.cells rm.slots)
/-- where the walk stands: nothing old but ws was written -/
def own_S (p : Program) (l : Launch) (e : Env) (R : Room) (s : State) (m : MethodId) (args : Array Value) (below : List Frame) (meth : Method) (c : Code) (n0 : Nat) (h0 : Heap) (ws : List Addr) (T : State) (h : Heap) (cells slots : Nat) : Prop :=
  (∃ locs, Stand p l e R s m args below meth c T locs cells slots ∧ Fr n0 locs) ∧ T.heap = h ∧ Keep h0 h ws
theorem own_S.her (X : own_S p l e R s m args below meth c n0 h0 ws T h cells slots) : At T m c below := by
  obtain ⟨⟨_, X, _⟩, _⟩ := X; exact X.here
theorem own_body {y : MethodName} {code : ByteArray} {maxL : Nat} {ret : Option FieldType} {wd : List Jvm.Cond} {rm : Room} {as : Array Value} {P : Option Value → Heap → Prop} (hy : plainFor y = true)
    (B : ∀ (p : Program) (e : Env) (s : State) (m : MethodId) (below : List Frame) (meth : Method) (c : Code) (T : State), own_S p l e rm s m as below meth c n0 h0 ws T h0 0 0 → p.tables.exec = Jvm.exec → c.code = code → c.maxLocals = maxL → s.vm.findClass y.cls = some m.cls → meth.name = y.name → meth.sig.returnType = ret → meth.locks = false → Z.Warmed39 s.vm →
      own_G p e below (own_D s (own_Q n0 h0 ws P) rm.cells rm.slots) T (entryFrame m as maxL)) :
    own_M l y code maxL ret wd rm Z as h0 (own_Q n0 h0 ws P) := by
  refine MetFree.of_bodySF hy hisR ?_
  intro p e s m args below meth c s₁ Bd hml0 hP hK
  obtain ⟨rfl, hZ, hh⟩ := hP
  exact B p e s m below meth c s₁ ⟨⟨[], Stand.of_body Bd, Fr.nil n0⟩, by rw [← hh, Bd.state]; rfl, Keep.refl _ _⟩ Bd.exec Bd.bytes hml0 (findClass_of_methodNamed Bd.named) (name_of_methodNamed Bd.named Bd.method).1 Bd.returns Bd.notSynchronized hZ
section Leave
variable {P : Option Value → Heap → Prop} {pc : Nat} {Ls : Array Slot} {rest : List Value} {C S : Nat}
theorem own_retN {t : FieldType} {z : Int32} (X : own_S p l e R s m args below meth c n0 h0 ws T h cells slots) (hx : p.tables.exec = Jvm.exec) (hret : meth.sig.returnType = some t) (hlk : meth.locks = false) (ht : t = .boolean ∨ t = .byte ∨ t = .char ∨ t = .short) (hd : decode c.code pc = .ok (.ireturn, 1)) (hc : cells ≤ C) (hs : slots ≤ S) (hP : P (some (.int (nar t z))) h) :
    own_G p e below (own_D s (own_Q n0 h0 ws P) C S) T (mkF m pc Ls (.int z :: rest)) := by
  obtain ⟨⟨locs, X, N⟩, rfl, K⟩ := X
  obtain ⟨fs, hr, hrun, hended, hW, hsame⟩ := X.leave (v := some (.int (nar t z))) (fun h => by rw [hret] at h; cases h) hlk
  exact ⟨_, _, retN X hx hret ht hd hr, hrun, hended, _, _, rfl, ⟨N, K, hP⟩, ⟨_, rfl⟩, hW, hsame.mono hc hs⟩
theorem own_retI {z : Int32} (X : own_S p l e R s m args below meth c n0 h0 ws T h cells slots) (hx : p.tables.exec = Jvm.exec) (hret : meth.sig.returnType = some .int) (hlk : meth.locks = false) (hd : decode c.code pc = .ok (.ireturn, 1)) (hc : cells ≤ C) (hs : slots ≤ S) (hP : P (some (.int z)) h) :
    own_G p e below (own_D s (own_Q n0 h0 ws P) C S) T (mkF m pc Ls (.int z :: rest)) := by
  obtain ⟨⟨locs, X, N⟩, rfl, K⟩ := X
  obtain ⟨fs, hr, hrun, hended, hW, hsame⟩ := X.leave (v := some (.int z)) (fun h => by rw [hret] at h; cases h) hlk
  exact ⟨_, _, retOut X hx hret rfl (Or.inl ⟨rfl, Or.inl rfl, _, rfl⟩) hd hr, hrun, hended, _, _, rfl, ⟨N, K, hP⟩, ⟨_, rfl⟩, hW, hsame.mono hc hs⟩
theorem own_retL {z : Int64} (X : own_S p l e R s m args below meth c n0 h0 ws T h cells slots) (hx : p.tables.exec = Jvm.exec) (hret : meth.sig.returnType = some .long) (hlk : meth.locks = false) (hd : decode c.code pc = .ok (.lreturn, 1)) (hc : cells ≤ C) (hs : slots ≤ S) (hP : P (some (.long z)) h) :
    own_G p e below (own_D s (own_Q n0 h0 ws P) C S) T (mkF m pc Ls (.long z :: rest)) := by
  obtain ⟨⟨locs, X, N⟩, rfl, K⟩ := X
  obtain ⟨fs, hr, hrun, hended, hW, hsame⟩ := X.leave (v := some (.long z)) (fun h => by rw [hret] at h; cases h) hlk
  exact ⟨_, _, retOut X hx hret rfl (Or.inr (Or.inl ⟨rfl, rfl, _, rfl⟩)) hd hr, hrun, hended, _, _, rfl, ⟨N, K, hP⟩, ⟨_, rfl⟩, hW, hsame.mono hc hs⟩
theorem own_retA {t : FieldType} {z : Addr} (X : own_S p l e R s m args below meth c n0 h0 ws T h cells slots) (hx : p.tables.exec = Jvm.exec) (hret : meth.sig.returnType = some t) (hlk : meth.locks = false) (ht : t.isReference = true) (hn : narrow t (.ref z) = .ref z) (hd : decode c.code pc = .ok (.areturn, 1)) (hc : cells ≤ C) (hs : slots ≤ S) (hP : P (some (.ref z)) h) :
    own_G p e below (own_D s (own_Q n0 h0 ws P) C S) T (mkF m pc Ls (.ref z :: rest)) := by
  obtain ⟨⟨locs, X, N⟩, rfl, K⟩ := X
  obtain ⟨fs, hr, hrun, hended, hW, hsame⟩ := X.leave (v := some (.ref z)) (fun h => by rw [hret] at h; cases h) hlk
  exact ⟨_, _, retOut X hx hret hn (Or.inr (Or.inr (Or.inr (Or.inr ⟨rfl, ht, rfl⟩)))) hd hr, hrun, hended, _, _, rfl, ⟨N, K, hP⟩, ⟨_, rfl⟩, hW, hsame.mono hc hs⟩
theorem own_ret0 (X : own_S p l e R s m args below meth c n0 h0 ws T h cells slots) (hx : p.tables.exec = Jvm.exec) (hret : meth.sig.returnType = none) (hlk : meth.locks = false) (hd : decode c.code pc = .ok (.return_, 1)) (hc : cells ≤ C) (hs : slots ≤ S) (hP : P none h) :
    own_G p e below (own_D s (own_Q n0 h0 ws P) C S) T (mkF m pc Ls []) := by
  obtain ⟨⟨locs, X, N⟩, rfl, K⟩ := X
  obtain ⟨fs, hr, hrun, hended, hW, hsame⟩ := X.leave (v := none) (fun _ => rfl) hlk
  exact ⟨_, _, X.returnOut hx hret hd hr, hrun, hended, _, _, rfl, ⟨N, K, hP⟩, ⟨_, rfl⟩, hW, hsame.mono hc hs⟩
end Leave
section Calls
variable {y : MethodName} {bytes : ByteArray} {maxL : Nat} {ret : Option FieldType} {rm : Room} {W : Nat} {own : String} {index : Nat} {P : Option Value → Heap → Prop} {wsc : List Addr} {G : Outcome → State → Prop} {pc : Nat} {Ls : Array Slot} {rest stk : List Value} {ps : List FieldType} {r : Option FieldType}
theorem own_callS (as : List Value) (X : own_S p l e R s m args below meth c n0 h0 ws T h cells slots) (hx : p.tables.exec = Jvm.exec) (hZ : Z.Warmed39 s.vm) (hown : s.vm.findClass own = some m.cls)
    (w1 : (Jvm.Cond.methodLink own index y).before a0 Z = true) (w2 : (Jvm.Cond.static y).before a0 Z = true) (w3 : (Jvm.Cond.initialized y.cls).before a0 Z = true) (w4 : (Jvm.Cond.code y bytes maxL ret).before a0 Z = true) (hy : y.cls ≠ "java/lang/invoke/MethodHandle" ∧ y.cls ≠ "java/lang/invoke/VarHandle")
    (M : own_M l y bytes maxL ret [] rm Z as.toArray h (own_Q n0 h wsc P)) (q : ∀ x ∈ wsc, x ∈ ws ∨ h0.size ≤ x)
    (hf : rm.frames + 1 ≤ R.frames) (hl : W + (maxL + 11) + rm.locals ≤ R.locals) (hc : cells + rm.cells ≤ R.cells) (hs : slots + rm.slots ≤ R.slots) (hsize : Ls.size = c.maxLocals)
    (hlen : parseMethodDescriptor y.desc = some ⟨ps, r⟩) (hlen' : as.length = ps.length) (hstk : stk = as.reverse ++ rest) (hW : (rest.map fun v => v.category).sum ≤ W) (hd : decode c.code pc = .ok (.invokestatic index, 3))
    (k : ∀ v T' h', own_S p l e R s m args below meth c n0 h0 ws T' h' (cells + rm.cells) (slots + rm.slots) → Keep h h' wsc → P v h' → own_G p e below G T' (mkF m (pc + 3) Ls (v.toList ++ rest))) :
    own_G p e below G T (mkF m pc Ls stk) := by
  obtain ⟨⟨locs, X, N⟩, e0, K⟩ := X
  obtain ⟨v, vm₁, ⟨T', L', k', n'⟩, -, X', ⟨Lc, hQ, l', y', z'⟩, st⟩ := Jvm.LawKit.callS X hx (y := y) hown (mvT hZ w1) (mvT hZ w2) (mvT hZ w3) (mvT hZ w4) hy (backOf (W := W) M hZ w4 w3 hf hl) (g := mkF m pc Ls stk) rfl hsize (argsL := as) (rest := rest) (lenOf hlen hlen') hstk (by show 2 * 0 + _ ≤ _; rw [Nat.mul_zero, Nat.zero_add]; exact hW) hd (fun _ _ => ⟨rfl, e0, hc, hs⟩)
  dsimp only [Pt.U, Pt.locs, Pt.cells, Pt.slots] at X' l' y' z' st hQ
  subst l' y' z'
  obtain ⟨N', K', hP⟩ := hQ
  exact own_st st (k v T' _ ⟨⟨_, X', N.app N'⟩, rfl, K.trans K' q⟩ K' hP)
theorem own_callC (as : List Value) {a : Addr} (X : own_S p l e R s m args below meth c n0 h0 ws T h cells slots) (hx : p.tables.exec = Jvm.exec) (hZ : Z.Warmed39 s.vm) (hown : s.vm.findClass own = some m.cls) (hy1 : y.name = "<init>")
    (w1 : (Jvm.Cond.methodLink own index y).before a0 Z = true) (w2 : (Jvm.Cond.instanceMethod y).before a0 Z = true) (w3 : (Jvm.Cond.initialized y.cls).before a0 Z = true) (w4 : (Jvm.Cond.code y bytes maxL none).before a0 Z = true) (hy : y.cls ≠ "java/lang/invoke/MethodHandle" ∧ y.cls ≠ "java/lang/invoke/VarHandle")
    (M : own_M l y bytes maxL none [] rm Z (Value.ref a :: as).toArray h (own_Q n0 h wsc P)) (q : ∀ x ∈ wsc, x ∈ ws ∨ h0.size ≤ x)
    (hf : rm.frames + 1 ≤ R.frames) (hl : W + (maxL + 11) + rm.locals ≤ R.locals) (hc : cells + rm.cells ≤ R.cells) (hs : slots + rm.slots ≤ R.slots) (hsize : Ls.size = c.maxLocals)
    (hlen : parseMethodDescriptor y.desc = some ⟨ps, r⟩) (hlen' : as.length = ps.length) (hstk : stk = as.reverse ++ .ref a :: rest) (hW : (rest.map fun v => v.category).sum ≤ W) (hd : decode c.code pc = .ok (.invokespecial index, 3))
    (k : ∀ v T' h', own_S p l e R s m args below meth c n0 h0 ws T' h' (cells + rm.cells) (slots + rm.slots) → Keep h h' wsc → P v h' → own_G p e below G T' (mkF m (pc + 3) Ls (v.toList ++ rest))) :
    own_G p e below G T (mkF m pc Ls stk) := by
  obtain ⟨⟨locs, X, N⟩, e0, K⟩ := X
  obtain ⟨v, vm₁, ⟨T', L', k', n'⟩, -, X', ⟨Lc, hQ, l', y', z'⟩, st⟩ := X.specialBack hx (y := y) hy1 hown (mvT hZ w1) (mvT hZ w2) (mvT hZ w4) hy (backOf (W := W) M hZ w4 w3 hf hl) (g := mkF m pc Ls stk) rfl hsize (Steps.refl _) (a := a) (argsL := as) (rest := rest) (lenOf hlen hlen') hstk (by show 2 * 0 + _ ≤ _; rw [Nat.mul_zero, Nat.zero_add]; exact hW) hd (fun _ _ => ⟨rfl, e0, hc, hs⟩)
  dsimp only [Pt.U, Pt.locs, Pt.cells, Pt.slots] at X' l' y' z' st hQ
  subst l' y' z'
  obtain ⟨N', K', hP⟩ := hQ
  exact own_st (fun t => st.trans) (k v T' _ ⟨⟨_, X', N.app N'⟩, rfl, K.trans K' q⟩ K' hP)
theorem own_callV (as : List Value) {a : Addr} (X : own_S p l e R s m args below meth c n0 h0 ws T h cells slots) (hx : p.tables.exec = Jvm.exec) (hZ : Z.Warmed39 s.vm) (hown : s.vm.findClass own = some m.cls)
    (w1 : (Jvm.Cond.methodLink own index y).before a0 Z = true) (w2 : (Jvm.Cond.declares y).before a0 Z = true) (w3 : (Jvm.Cond.selects y.cls y y).before a0 Z = true) (w5 : (Jvm.Cond.instanceMethod y).before a0 Z = true) (w6 : (Jvm.Cond.initialized y.cls).before a0 Z = true) (w4 : (Jvm.Cond.code y bytes maxL ret).before a0 Z = true) (hy : y.cls ≠ "java/lang/invoke/MethodHandle" ∧ y.cls ≠ "java/lang/invoke/VarHandle")
    (E : Exa Z h a y.cls)
    (M : own_M l y bytes maxL ret [] rm Z (Value.ref a :: as).toArray h (own_Q n0 h wsc P)) (q : ∀ x ∈ wsc, x ∈ ws ∨ h0.size ≤ x)
    (hf : rm.frames + 1 ≤ R.frames) (hl : W + (maxL + 11) + rm.locals ≤ R.locals) (hc : cells + rm.cells ≤ R.cells) (hs : slots + rm.slots ≤ R.slots) (hsize : Ls.size = c.maxLocals)
    (hlen : parseMethodDescriptor y.desc = some ⟨ps, r⟩) (hlen' : as.length = ps.length) (hstk : stk = as.reverse ++ .ref a :: rest) (hW : (rest.map fun v => v.category).sum ≤ W) (hd : decode c.code pc = .ok (.invokevirtual index, 3))
    (k : ∀ v T' h', own_S p l e R s m args below meth c n0 h0 ws T' h' (cells + rm.cells) (slots + rm.slots) → Keep h h' wsc → P v h' → own_G p e below G T' (mkF m (pc + 3) Ls (v.toList ++ rest))) :
    own_G p e below G T (mkF m pc Ls stk) := by
  obtain ⟨⟨locs, X, N⟩, e0, K⟩ := X
  obtain ⟨cq, kq, qa, qb, qc⟩ := isOf hZ e0 E
  obtain ⟨v, vm₁, ⟨T', L', k', n'⟩, -, X', ⟨Lc, hQ, l', y', z'⟩, st⟩ := X.virtualBack hx (y := y) (z := y) hown (mvT hZ w1) (mvT hZ w2) (notFace_of_selects (args := #[]) (mvT hZ w3)) (mvT hZ w3) (mvT hZ w5) hy (backOf (W := W) M hZ w4 w6 hf hl) qa qc (g := mkF m pc Ls stk) rfl hsize (Steps.refl _) (argsL := as) (rest := rest) (lenOf hlen hlen') hstk (by show 2 * 0 + _ ≤ _; rw [Nat.mul_zero, Nat.zero_add]; exact hW) hd (fun _ _ => ⟨rfl, e0, hc, hs⟩)
  dsimp only [Pt.U, Pt.locs, Pt.cells, Pt.slots] at X' l' y' z' st hQ
  subst l' y' z'
  obtain ⟨N', K', hP⟩ := hQ
  exact own_st (fun t => st.trans) (k v T' _ ⟨⟨_, X', N.app N'⟩, rfl, K.trans K' q⟩ K' hP)
theorem own_initO {a : Addr} (X : own_S p l e R s m args below meth c n0 h0 ws T h cells slots) (hx : p.tables.exec = Jvm.exec) (hZ : Z.Warmed39 s.vm) (hown : s.vm.findClass own = some m.cls)
    (w1 : (Jvm.Cond.methodLink own index Lib.objectInit).before a0 Z = true) (w2 : (Jvm.Cond.instanceMethod Lib.objectInit).before a0 Z = true) (w3 : (Jvm.Cond.code Lib.objectInit ⟨#[0xb1]⟩ 1 none).before a0 Z = true)
    (hf : 1 ≤ R.frames) (hl : W + 12 ≤ R.locals) (hsize : Ls.size = c.maxLocals) (hW : (rest.map fun v => v.category).sum ≤ W) (hd : decode c.code pc = .ok (.invokespecial index, 3))
    (k : ∀ T', own_S p l e R s m args below meth c n0 h0 ws T' h cells slots → own_G p e below G T' (mkF m (pc + 3) Ls rest)) :
    own_G p e below G T (mkF m pc Ls (.ref a :: rest)) := by
  obtain ⟨⟨locs, X, N⟩, e0, K⟩ := X
  obtain ⟨T1, X1, e1, st⟩ := initO X hx hZ hown w1 w2 w3 e0 (g := mkF m pc Ls (.ref a :: rest)) rfl hsize rfl hd hf (W := W) (by show 2 * 0 + _ ≤ _; rw [Nat.mul_zero, Nat.zero_add]; exact hW) hl
  exact own_st st (k T1 ⟨⟨_, X1, N⟩, e1, K⟩)
/-- a pure callee: it returns this and leaves the heap -/
def own_P (val : Value) (h0 : Heap) (v : Option Value) (h : Heap) : Prop := v = some val ∧ h = h0
theorem own_callSP (as : List Value) {val : Value} (X : own_S p l e R s m args below meth c n0 h0 ws T h cells slots) (hx : p.tables.exec = Jvm.exec) (hZ : Z.Warmed39 s.vm) (hown : s.vm.findClass own = some m.cls)
    (w1 : (Jvm.Cond.methodLink own index y).before a0 Z = true) (w2 : (Jvm.Cond.static y).before a0 Z = true) (w3 : (Jvm.Cond.initialized y.cls).before a0 Z = true) (w4 : (Jvm.Cond.code y bytes maxL ret).before a0 Z = true) (hy : y.cls ≠ "java/lang/invoke/MethodHandle" ∧ y.cls ≠ "java/lang/invoke/VarHandle")
    (M : own_M l y bytes maxL ret [] rm Z as.toArray h (own_Q n0 h [] (own_P val h)))
    (hf : rm.frames + 1 ≤ R.frames) (hl : W + (maxL + 11) + rm.locals ≤ R.locals) (hc : cells + rm.cells ≤ R.cells) (hs : slots + rm.slots ≤ R.slots) (hsize : Ls.size = c.maxLocals)
    (hlen : parseMethodDescriptor y.desc = some ⟨ps, r⟩) (hlen' : as.length = ps.length) (hstk : stk = as.reverse ++ rest) (hW : (rest.map fun v => v.category).sum ≤ W) (hd : decode c.code pc = .ok (.invokestatic index, 3))
    (k : ∀ T', own_S p l e R s m args below meth c n0 h0 ws T' h (cells + rm.cells) (slots + rm.slots) → own_G p e below G T' (mkF m (pc + 3) Ls (val :: rest))) :
    own_G p e below G T (mkF m pc Ls stk) :=
  own_callS as X hx hZ hown w1 w2 w3 w4 hy M (fun _ q => nomatch q) hf hl hc hs hsize hlen hlen' hstk hW hd fun v T' h' X' _ hv => by
    obtain ⟨hv, hh⟩ := hv
    rw [hv]; rw [hh] at X'
    exact k T' X'
/-- a callee that returns nothing and leaves the heap -/
def own_N (h0 : Heap) (v : Option Value) (h : Heap) : Prop := v = none ∧ h = h0
theorem own_callCN (as : List Value) {a : Addr} (X : own_S p l e R s m args below meth c n0 h0 ws T h cells slots) (hx : p.tables.exec = Jvm.exec) (hZ : Z.Warmed39 s.vm) (hown : s.vm.findClass own = some m.cls) (hy1 : y.name = "<init>")
    (w1 : (Jvm.Cond.methodLink own index y).before a0 Z = true) (w2 : (Jvm.Cond.instanceMethod y).before a0 Z = true) (w3 : (Jvm.Cond.initialized y.cls).before a0 Z = true) (w4 : (Jvm.Cond.code y bytes maxL none).before a0 Z = true) (hy : y.cls ≠ "java/lang/invoke/MethodHandle" ∧ y.cls ≠ "java/lang/invoke/VarHandle")
    (M : own_M l y bytes maxL none [] rm Z (Value.ref a :: as).toArray h (own_Q n0 h [] (own_N h)))
    (hf : rm.frames + 1 ≤ R.frames) (hl : W + (maxL + 11) + rm.locals ≤ R.locals) (hc : cells + rm.cells ≤ R.cells) (hs : slots + rm.slots ≤ R.slots) (hsize : Ls.size = c.maxLocals)
    (hlen : parseMethodDescriptor y.desc = some ⟨ps, r⟩) (hlen' : as.length = ps.length) (hstk : stk = as.reverse ++ .ref a :: rest) (hW : (rest.map fun v => v.category).sum ≤ W) (hd : decode c.code pc = .ok (.invokespecial index, 3))
    (k : ∀ T', own_S p l e R s m args below meth c n0 h0 ws T' h (cells + rm.cells) (slots + rm.slots) → own_G p e below G T' (mkF m (pc + 3) Ls rest)) :
    own_G p e below G T (mkF m pc Ls stk) :=
  own_callC as X hx hZ hown hy1 w1 w2 w3 w4 hy M (fun _ q => nomatch q) hf hl hc hs hsize hlen hlen' hstk hW hd fun v T' h' X' _ hv => by
    obtain ⟨hv, hh⟩ := hv
    rw [hv]; rw [hh] at X'
    exact k T' X'
theorem own_callVP (as : List Value) {val : Value} {a : Addr} (X : own_S p l e R s m args below meth c n0 h0 ws T h cells slots) (hx : p.tables.exec = Jvm.exec) (hZ : Z.Warmed39 s.vm) (hown : s.vm.findClass own = some m.cls)
    (w1 : (Jvm.Cond.methodLink own index y).before a0 Z = true) (w2 : (Jvm.Cond.declares y).before a0 Z = true) (w3 : (Jvm.Cond.selects y.cls y y).before a0 Z = true) (w5 : (Jvm.Cond.instanceMethod y).before a0 Z = true) (w6 : (Jvm.Cond.initialized y.cls).before a0 Z = true) (w4 : (Jvm.Cond.code y bytes maxL ret).before a0 Z = true) (hy : y.cls ≠ "java/lang/invoke/MethodHandle" ∧ y.cls ≠ "java/lang/invoke/VarHandle")
    (E : Exa Z h a y.cls)
    (M : own_M l y bytes maxL ret [] rm Z (Value.ref a :: as).toArray h (own_Q n0 h [] (own_P val h)))
    (hf : rm.frames + 1 ≤ R.frames) (hl : W + (maxL + 11) + rm.locals ≤ R.locals) (hc : cells + rm.cells ≤ R.cells) (hs : slots + rm.slots ≤ R.slots) (hsize : Ls.size = c.maxLocals)
    (hlen : parseMethodDescriptor y.desc = some ⟨ps, r⟩) (hlen' : as.length = ps.length) (hstk : stk = as.reverse ++ .ref a :: rest) (hW : (rest.map fun v => v.category).sum ≤ W) (hd : decode c.code pc = .ok (.invokevirtual index, 3))
    (k : ∀ T', own_S p l e R s m args below meth c n0 h0 ws T' h (cells + rm.cells) (slots + rm.slots) → own_G p e below G T' (mkF m (pc + 3) Ls (val :: rest))) :
    own_G p e below G T (mkF m pc Ls stk) :=
  own_callV as X hx hZ hown w1 w2 w3 w5 w6 w4 hy E M (fun _ q => nomatch q) hf hl hc hs hsize hlen hlen' hstk hW hd fun v T' h' X' _ hv => by
    obtain ⟨hv, hh⟩ := hv
    rw [hv]; rw [hh] at X'
    exact k T' X'
theorem own_irem {x z : Int32} (X : own_S p l e R s m args below meth c n0 h0 ws T h cells slots) (hx : p.tables.exec = Jvm.exec) (hd : decode c.code pc = .ok (.irem, 1)) (hz : z ≠ 0)
    (k : own_G p e below G T (mkF m (pc + 1) Ls (.int (x % z) :: rest))) : own_G p e below G T (mkF m pc Ls (.int z :: .int x :: rest)) :=
  own_st (fun t k => XS.irem X.her hx rfl hd rfl hz (by rw [irem_eq_mod]; exact k)) k
theorem own_lrem {x z : Int64} (X : own_S p l e R s m args below meth c n0 h0 ws T h cells slots) (hx : p.tables.exec = Jvm.exec) (hd : decode c.code pc = .ok (.lrem, 1)) (hz : z ≠ 0)
    (k : own_G p e below G T (mkF m (pc + 1) Ls (.long (x % z) :: rest))) : own_G p e below G T (mkF m pc Ls (.long z :: .long x :: rest)) :=
  own_st (fun t k => XS.lrem X.her hx rfl hd rfl hz (by rw [lrem_mod]; exact k)) k
theorem own_b2 (x : Int32) : x.toInt8.toInt32.toInt8.toInt32 = x.toInt8.toInt32 := by simp
end Calls
section Heap
variable {own : String} {index : Nat} {G : Outcome → State → Prop} {pc : Nat} {Ls : Array Slot} {rest : List Value}
theorem own_ldcI {v : Int32} (X : own_S p l e R s m args below meth c n0 h0 ws T h cells slots) (hx : p.tables.exec = Jvm.exec) (hZ : Z.Warmed39 s.vm) (hown : s.vm.findClass own = some m.cls) (w : (Jvm.Cond.constant own index v).before a0 Z = true) (hd : decode c.code pc = .ok (.ldc index, 2))
    (k : own_G p e below G T (mkF m (pc + 2) Ls (.int v :: rest))) : own_G p e below G T (mkF m pc Ls rest) := by
  obtain ⟨⟨locs, X, N⟩, e0, K⟩ := X
  exact own_st (X.ldcInt hx hown (mvT hZ w) (g := mkF m pc Ls rest) rfl hd) k
theorem own_ldcL {v : Int64} (X : own_S p l e R s m args below meth c n0 h0 ws T h cells slots) (hx : p.tables.exec = Jvm.exec) (hZ : Z.Warmed39 s.vm) (hown : s.vm.findClass own = some m.cls) (w : (Jvm.Cond.constantLong own index v).before a0 Z = true) (hd : decode c.code pc = .ok (.ldc2_w index, 3))
    (k : own_G p e below G T (mkF m (pc + 3) Ls (.long v :: rest))) : own_G p e below G T (mkF m pc Ls rest) := by
  obtain ⟨⟨locs, X, N⟩, e0, K⟩ := X
  exact own_st (X.ldc2Long hx hown (mvT hZ w) (g := mkF m pc Ls rest) rfl hd) k
theorem own_getF {a : Addr} {C n d : String} {v : Value} (X : own_S p l e R s m args below meth c n0 h0 ws T h cells slots) (hx : p.tables.exec = Jvm.exec) (hZ : Z.Warmed39 s.vm) (hown : s.vm.findClass own = some m.cls) (w : (Jvm.Cond.fieldLink own index C n d).before a0 Z = true) (F : Fld Z h a C n d v) (hd : decode c.code pc = .ok (.getfield index, 3))
    (k : ∀ T', own_S p l e R s m args below meth c n0 h0 ws T' h cells slots → own_G p e below G T' (mkF m (pc + 3) Ls (v :: rest))) : own_G p e below G T (mkF m pc Ls (.ref a :: rest)) := by
  obtain ⟨⟨locs, X, N⟩, e0, K⟩ := X
  obtain ⟨T1, X1, e1, st⟩ := getF X hx hZ hown (host := "") (Or.inl w) Via.refl e0 F (g := mkF m pc Ls (.ref a :: rest)) rfl rfl hd
  exact own_st st (k T1 ⟨⟨_, X1, N⟩, e1, K⟩)
theorem own_getS {C n d : String} {v : Value} (X : own_S p l e R s m args below meth c n0 h0 ws T h cells slots) (hx : p.tables.exec = Jvm.exec) (hZ : Z.Warmed39 s.vm) (hown : s.vm.findClass own = some m.cls) (w : (Jvm.Cond.fieldLink own index C n d).before a0 Z = true) (F : Sta Z h C n d v) (hd : decode c.code pc = .ok (.getstatic index, 3))
    (k : ∀ T', own_S p l e R s m args below meth c n0 h0 ws T' h cells slots → own_G p e below G T' (mkF m (pc + 3) Ls (v :: rest))) : own_G p e below G T (mkF m pc Ls rest) := by
  obtain ⟨⟨locs, X, N⟩, e0, K⟩ := X
  obtain ⟨T1, X1, e1, st⟩ := getS2 X hx hZ hown (host := "") (Or.inl w) Via.refl e0 F (g := mkF m pc Ls rest) rfl hd
  exact own_st st (k T1 ⟨⟨_, X1, N⟩, e1, K⟩)
theorem own_putF {a : Addr} {C n d : String} {v old : Value} {kk : Nat} {ty : FieldType} (X : own_S p l e R s m args below meth c n0 h0 ws T h cells slots) (hx : p.tables.exec = Jvm.exec) (hZ : Z.Warmed39 s.vm) (hown : s.vm.findClass own = some m.cls) (w : (Jvm.Cond.fieldLink own index C n d).before a0 Z = true) (F : Fld Z h a C n d old) (E : Exa Z h a C)
    (L : (Jvm.Cond.lays C C n d).before a0 Z = true ∨ ((Jvm.Cond.laysFinal C C n d).before a0 Z = true ∧ own = C ∧ meth.name = "<init>")) (wi : (Jvm.Cond.instantiable C kk).before a0 Z = true) (hty : parseFieldDescriptor d = some ty) (hn : narrow ty v = v) (hf : fits ty v = true) (hd : decode c.code pc = .ok (.putfield index, 3)) (ga : n0 ≤ a) (qa : a ∈ ws ∨ h0.size ≤ a)
    (k : ∀ T' h', own_S p l e R s m args below meth c n0 h0 ws T' h' cells slots → Wr h h' a (Jvm.RoadKit.slotOf Z C n d) v → Fld Z h' a C n d v → Exa Z h' a C → own_G p e below G T' (mkF m (pc + 3) Ls rest)) : own_G p e below G T (mkF m pc Ls (v :: .ref a :: rest)) := by
  obtain ⟨⟨locs, X, N⟩, e0, K⟩ := X
  obtain ⟨T1, h1, X1, e1, W1, st⟩ := putF X hx hZ hown (host := "") (Or.inl w) Via.refl e0 F E L wi hty hn hf (g := mkF m pc Ls (v :: .ref a :: rest)) rfl rfl hd
  exact own_st st (k T1 h1 ⟨⟨_, X1, Fr.snoc X1 N ga⟩, e1, K.wr W1 qa⟩ W1 (F.same W1) (E.wr W1))
theorem own_newO {C : String} {kk : Nat} (X : own_S p l e R s m args below meth c n0 h0 ws T h cells slots) (hx : p.tables.exec = Jvm.exec) (hZ : Z.Warmed39 s.vm) (hown : s.vm.findClass own = some m.cls) (w : (Jvm.Cond.classLink own index C).before a0 Z = true) (wi : (Jvm.Cond.instantiable C kk).before a0 Z = true) (wz : (Jvm.Cond.initialized C).before a0 Z = true) (hd : decode c.code pc = .ok (.new index, 3)) (hc : cells + 1 ≤ R.cells) (hl : slots + kk ≤ R.slots)
    (k : ∀ T' h' (b : Addr), b = h.size → h0.size ≤ b → own_S p l e R s m args below meth c n0 h0 ws T' h' (cells + 1) (slots + kk) → Ext h h' → Exa Z h' b C → (∀ {O nm d : String} {ty : FieldType}, Laid Z a0 C O nm d → parseFieldDescriptor d = some ty → Fld Z h' b O nm d (defaultValue ty)) → own_G p e below G T' (mkF m (pc + 3) Ls (.ref b :: rest))) : own_G p e below G T (mkF m pc Ls rest) := by
  obtain ⟨⟨locs, X, N⟩, e0, K⟩ := X
  obtain ⟨T1, h1, X1, e1, E1, A1, D1, -, st⟩ := newO X hx hZ hown w wi wz e0 (g := mkF m pc Ls rest) rfl hd hc hl
  exact own_st st (k T1 h1 _ rfl K.1 ⟨⟨_, X1, N⟩, e1, K.ext E1⟩ E1 A1 D1)
/-- a byte array with these elements -/
def own_B (Z : State) (h : Heap) (a : Addr) (L : List Int32) : Prop := ∃ c : Cell, Arr Z h a c .byte ∧ c.slots = (L.map Value.int).toArray
theorem own_B.lt {a : Addr} {L : List Int32} (B : own_B Z h a L) : a < h.size := by obtain ⟨c, A, _⟩ := B; exact A.lt
theorem own_B.ext {a : Addr} {L : List Int32} (B : own_B Z h a L) (E : Ext h h') : own_B Z h' a L := by obtain ⟨c, A, q⟩ := B; exact ⟨c, A.ext E, q⟩
theorem own_B.other {a b : Addr} {L : List Int32} {sl : Nat} {v : Value} (B : own_B Z h b L) (W : Wr h h' a sl v) (q : b ≠ a) : own_B Z h' b L := by obtain ⟨c, A, r⟩ := B; exact ⟨c, A.other W q, r⟩
theorem own_B.keep {a : Addr} {L : List Int32} (B : own_B Z h a L) (K : Keep h h' ws) (q : a ∉ ws) : own_B Z h' a L := by obtain ⟨c, A, r⟩ := B; exact ⟨c, ⟨K.2.1 a c A.1 q, A.2⟩, r⟩
theorem own_bload {a : Addr} {L : List Int32} {j v : Int32} (X : own_S p l e R s m args below meth c n0 h0 ws T h cells slots) (hx : p.tables.exec = Jvm.exec) (hZ : Z.Warmed39 s.vm) (B : own_B Z h a L) (hj : ¬ j < 0) (hv : L[j.toNatClampNeg]? = some v) (hd : decode c.code pc = .ok (.baload, 1))
    (k : own_G p e below G T (mkF m (pc + 1) Ls (.int v :: rest))) : own_G p e below G T (mkF m pc Ls (.int j :: .ref a :: rest)) := by
  obtain ⟨⟨locs, X, N⟩, e0, K⟩ := X
  obtain ⟨cl, A, q⟩ := B
  have h1 : cl.slots[j.toNatClampNeg]? = some (.int v) := by rw [q]; simp [hv]
  have h2 : ¬ (j < 0 ∨ cl.slots.size ≤ j.toNatClampNeg) := fun z => z.elim hj fun z => by
    have := (Array.getElem?_eq_some_iff.mp h1).1
    omega
  exact own_st (X.baloadBytes hx (j := j) (v := .int v) (by rw [e0]; exact A.1) (State.isArrayOf_alike hZ.alike A.2.1) A.2.2 h2 h1 (g := mkF m pc Ls (.int j :: .ref a :: rest)) rfl rfl hd) k
theorem own_bstore {a : Addr} {L : List Int32} {j x : Int32} (X : own_S p l e R s m args below meth c n0 h0 ws T h cells slots) (hx : p.tables.exec = Jvm.exec) (hZ : Z.Warmed39 s.vm) (B : own_B Z h a L) (hj : ¬ j < 0) (hv : j.toNatClampNeg < L.length) (hd : decode c.code pc = .ok (.bastore, 1)) (ga : n0 ≤ a) (qa : a ∈ ws ∨ h0.size ≤ a)
    (k : ∀ T' h', own_S p l e R s m args below meth c n0 h0 ws T' h' cells slots → Keep h h' [a] → Wr h h' a j.toNatClampNeg (.int (nar .byte x)) → own_B Z h' a (L.set j.toNatClampNeg x.toInt8.toInt32) → own_G p e below G T' (mkF m (pc + 1) Ls rest)) : own_G p e below G T (mkF m pc Ls (.int x :: .int j :: .ref a :: rest)) := by
  obtain ⟨⟨locs, X, N⟩, e0, K⟩ := X
  obtain ⟨cl, A, q⟩ := B
  have h2 : ¬ (j < 0 ∨ cl.slots.size ≤ j.toNatClampNeg) := fun z => z.elim hj fun z => by
    rw [q] at z
    simp at z
    omega
  obtain ⟨T1, h1, X1, e1, W1, st⟩ := stB X hx hZ e0 A (j := j) (x := x) h2 (g := mkF m pc Ls (.int x :: .int j :: .ref a :: rest)) rfl rfl hd
  refine own_st st (k T1 h1 ⟨⟨_, X1, Fr.snoc X1 N ga⟩, e1, K.wr W1 qa⟩ (Keep.of_wr W1) W1 ⟨_, A.same W1, ?_⟩)
  show (cl.slots.setIfInBounds j.toNatClampNeg _) = _
  rw [q]
  simp [nar]
theorem own_newB {n : Int32} {kk : Nat} (X : own_S p l e R s m args below meth c n0 h0 ws T h cells slots) (hx : p.tables.exec = Jvm.exec) (hZ : Z.Warmed39 s.vm) (w : (Jvm.Cond.arrayClass .byte).before a0 Z = true) (hn : ¬ n < 0) (hk : n.toNatClampNeg = kk) (hb : kk * 8 ≤ 536870912) (hc : cells + 1 ≤ R.cells) (hl : slots + kk ≤ R.slots) (hd : decode c.code pc = .ok (.newarray .byte, 2))
    (k : ∀ T' h' (b : Addr), b = h.size → h0.size ≤ b → own_S p l e R s m args below meth c n0 h0 ws T' h' (cells + 1) (slots + kk) → Ext h h' → own_B Z h' b (List.replicate kk 0) → own_G p e below G T' (mkF m (pc + 2) Ls (.ref b :: rest))) : own_G p e below G T (mkF m pc Ls (.int n :: rest)) := by
  obtain ⟨⟨locs, X, N⟩, e0, K⟩ := X
  obtain ⟨T1, h1, cA, X1, e1, E1, A1, st⟩ := newP X hx hZ (aty := .byte) w e0 (g := mkF m pc Ls (.int n :: rest)) rfl hd rfl hn (cap := kk) (Nat.le_of_eq hk) hb hc hl
  refine own_st st (k T1 h1 _ rfl K.1 ⟨⟨_, X1, N⟩, e1, K.ext E1⟩ E1 ⟨_, A1, ?_⟩)
  show Array.replicate n.toNatClampNeg (defaultValue .byte) = _
  rw [hk]
  simp [defaultValue]
end Heap
end Own
section OwnR
variable {p : Program} {l : Launch} {e : Env} {R : Room} {s : State} {m : MethodId} {args : Array Value} {below : List Frame} {meth : Method} {c : Code} {T T' : State} {locs : List Loc} {cells slots : Nat} {Z : State} {h h' h0 : Heap} {n0 : Nat} {ws : List Addr} {a0 : Array Value} {G : Outcome → State → Prop} {pc : Nat} {Ls : Array Slot} {rest stk : List Value} {own : String} {index : Nat}
theorem own_getFV {a : Addr} {R0 C n d : String} {v : Value} (X : own_S p l e R s m args below meth c n0 h0 ws T h cells slots) (hx : p.tables.exec = Jvm.exec) (hZ : Z.Warmed39 s.vm) (hown : s.vm.findClass own = some m.cls) (w : (Jvm.Cond.fieldLink own index R0 n d).before a0 Z = true) (via : Via Z R0 C n d) (F : Fld Z h a C n d v) (hd : decode c.code pc = .ok (.getfield index, 3))
    (k : ∀ T', own_S p l e R s m args below meth c n0 h0 ws T' h cells slots → own_G p e below G T' (mkF m (pc + 3) Ls (v :: rest))) : own_G p e below G T (mkF m pc Ls (.ref a :: rest)) := by
  obtain ⟨⟨locs, X, N⟩, e0, K⟩ := X
  obtain ⟨T1, X1, e1, st⟩ := getF X hx hZ hown (host := "") (Or.inl w) via e0 F (g := mkF m pc Ls (.ref a :: rest)) rfl rfl hd
  exact own_st st (k T1 ⟨⟨_, X1, N⟩, e1, K⟩)
theorem own_putFV {a : Addr} {R0 C K0 n d : String} {v old : Value} {kk : Nat} {ty : FieldType} (X : own_S p l e R s m args below meth c n0 h0 ws T h cells slots) (hx : p.tables.exec = Jvm.exec) (hZ : Z.Warmed39 s.vm) (hown : s.vm.findClass own = some m.cls) (w : (Jvm.Cond.fieldLink own index R0 n d).before a0 Z = true) (via : Via Z R0 C n d) (F : Fld Z h a C n d old) (E : Exa Z h a K0)
    (L : (Jvm.Cond.lays K0 C n d).before a0 Z = true ∨ ((Jvm.Cond.laysFinal K0 C n d).before a0 Z = true ∧ own = C ∧ meth.name = "<init>")) (wi : (Jvm.Cond.instantiable K0 kk).before a0 Z = true) (hty : parseFieldDescriptor d = some ty) (hn : narrow ty v = v) (hf : fits ty v = true) (hd : decode c.code pc = .ok (.putfield index, 3)) (ga : n0 ≤ a) (qa : a ∈ ws ∨ h0.size ≤ a)
    (k : ∀ T' h', own_S p l e R s m args below meth c n0 h0 ws T' h' cells slots → Wr h h' a (Jvm.RoadKit.slotOf Z C n d) v → Fld Z h' a C n d v → Exa Z h' a K0 → own_G p e below G T' (mkF m (pc + 3) Ls rest)) : own_G p e below G T (mkF m pc Ls (v :: .ref a :: rest)) := by
  obtain ⟨⟨locs, X, N⟩, e0, K⟩ := X
  obtain ⟨T1, h1, X1, e1, W1, st⟩ := putF X hx hZ hown (host := "") (Or.inl w) via e0 F E L wi hty hn hf (g := mkF m pc Ls (v :: .ref a :: rest)) rfl rfl hd
  exact own_st st (k T1 h1 ⟨⟨_, X1, Fr.snoc X1 N ga⟩, e1, K.wr W1 qa⟩ W1 (F.same W1) (E.wr W1))
section Calls
variable {y : MethodName} {bytes : ByteArray} {maxL : Nat} {ret : Option FieldType} {rm : Room} {W : Nat} {P : Option Value → Heap → Prop} {wsc : List Addr} {ps : List FieldType} {r : Option FieldType}
/-- an instance method that is private -/
theorem own_callW (as : List Value) {a : Addr} (X : own_S p l e R s m args below meth c n0 h0 ws T h cells slots) (hx : p.tables.exec = Jvm.exec) (hZ : Z.Warmed39 s.vm) (hown : s.vm.findClass own = some m.cls)
    (w1 : (Jvm.Cond.methodLink own index y).before a0 Z = true) (w2 : (Jvm.Cond.privateMethod y).before a0 Z = true) (w3 : (Jvm.Cond.selects y.cls y y).before a0 Z = true) (w5 : (Jvm.Cond.instanceMethod y).before a0 Z = true) (w6 : (Jvm.Cond.initialized y.cls).before a0 Z = true) (w4 : (Jvm.Cond.code y bytes maxL ret).before a0 Z = true) (hy : y.cls ≠ "java/lang/invoke/MethodHandle" ∧ y.cls ≠ "java/lang/invoke/VarHandle")
    (E : Exa Z h a y.cls)
    (M : own_M l y bytes maxL ret [] rm Z (Value.ref a :: as).toArray h (own_Q n0 h wsc P)) (q : ∀ x ∈ wsc, x ∈ ws ∨ h0.size ≤ x)
    (hf : rm.frames + 1 ≤ R.frames) (hl : W + (maxL + 11) + rm.locals ≤ R.locals) (hc : cells + rm.cells ≤ R.cells) (hs : slots + rm.slots ≤ R.slots) (hsize : Ls.size = c.maxLocals)
    (hlen : parseMethodDescriptor y.desc = some ⟨ps, r⟩) (hlen' : as.length = ps.length) (hstk : stk = as.reverse ++ .ref a :: rest) (hW : (rest.map fun v => v.category).sum ≤ W) (hd : decode c.code pc = .ok (.invokevirtual index, 3))
    (k : ∀ v T' h', own_S p l e R s m args below meth c n0 h0 ws T' h' (cells + rm.cells) (slots + rm.slots) → Keep h h' wsc → P v h' → own_G p e below G T' (mkF m (pc + 3) Ls (v.toList ++ rest))) :
    own_G p e below G T (mkF m pc Ls stk) := by
  obtain ⟨⟨locs, X, N⟩, e0, K⟩ := X
  obtain ⟨cq, q1, q2⟩ := E.cell
  obtain ⟨v, vm₁, ⟨T', L', k', n'⟩, -, X', ⟨Lc, hQ, l', y', z'⟩, st⟩ := X.privateBack hx (y := y) hown (mvT hZ w1) (mvT hZ w5) (mvT hZ w3) (Cond.privateMethod_at (mvP hZ w2 (args := #[]))) (mvT hZ w4) hy (backOf (W := W) M hZ w4 w6 hf hl) (g := mkF m pc Ls stk) rfl hsize (Steps.refl _) (a := a) (by rw [e0]; exact q1) q2 (argsL := as) (rest := rest) (lenOf hlen hlen') hstk (by show 2 * 0 + _ ≤ _; rw [Nat.mul_zero, Nat.zero_add]; exact hW) hd (fun _ _ => ⟨rfl, e0, hc, hs⟩)
  dsimp only [Pt.U, Pt.locs, Pt.cells, Pt.slots] at X' l' y' z' st hQ
  subst l' y' z'
  obtain ⟨N', K', hP⟩ := hQ
  exact own_st (fun t => st.trans) (k v T' _ ⟨⟨_, X', N.app N'⟩, rfl, K.trans K' q⟩ K' hP)
/-- an interface's method that the receiver's class selects; the callee is pure -/
theorem own_callIP (as : List Value) {val : Value} {a : Addr} {C : String} {xi : MethodName} {count : Nat} (X : own_S p l e R s m args below meth c n0 h0 ws T h cells slots) (hx : p.tables.exec = Jvm.exec) (hZ : Z.Warmed39 s.vm) (hown : s.vm.findClass own = some m.cls)
    (w1 : (Jvm.Cond.methodLink own index xi).before a0 Z = true) (w2 : (Jvm.Cond.declares xi).before a0 Z = true) (w7 : (Jvm.Cond.interfaceMethod xi.cls xi.cls xi.name xi.desc).before a0 Z = true) (w3 : (Jvm.Cond.selects C xi y).before a0 Z = true) (w5 : (Jvm.Cond.instanceMethod y).before a0 Z = true) (w8 : (Jvm.Cond.publicMethod y).before a0 Z = true) (w9 : (Jvm.Cond.unhidden C xi.name xi.desc).before a0 Z = true) (w10 : (Jvm.Cond.castable C xi.cls).before a0 Z = true)
    (w6 : (Jvm.Cond.initialized y.cls).before a0 Z = true) (w4 : (Jvm.Cond.code y bytes maxL ret).before a0 Z = true) (hy : xi.cls ≠ "java/lang/invoke/MethodHandle" ∧ xi.cls ≠ "java/lang/invoke/VarHandle") (hd7 : ((Jvm.Cond.interfaceMethod xi.cls xi.cls xi.name xi.desc).onTables && (Jvm.Cond.interfaceMethod xi.cls xi.cls xi.name xi.desc).keepsFace) = true)
    (E : Exa Z h a C)
    (M : own_M l y bytes maxL ret [] rm Z (Value.ref a :: as).toArray h (own_Q n0 h [] (own_P val h)))
    (hf : rm.frames + 1 ≤ R.frames) (hl : W + (maxL + 11) + rm.locals ≤ R.locals) (hc : cells + rm.cells ≤ R.cells) (hs : slots + rm.slots ≤ R.slots) (hsize : Ls.size = c.maxLocals)
    (hlen : parseMethodDescriptor xi.desc = some ⟨ps, r⟩) (hlen' : as.length = ps.length) (hstk : stk = as.reverse ++ .ref a :: rest) (hW : (rest.map fun v => v.category).sum ≤ W) (hd : decode c.code pc = .ok (.invokeinterface index count, 5))
    (k : ∀ T', own_S p l e R s m args below meth c n0 h0 ws T' h (cells + rm.cells) (slots + rm.slots) → own_G p e below G T' (mkF m (pc + 5) Ls (val :: rest))) :
    own_G p e below G T (mkF m pc Ls stk) := by
  obtain ⟨⟨locs, X, N⟩, e0, K⟩ := X
  obtain ⟨cq, kq, qa, qb, qc⟩ := isOf hZ e0 E
  obtain ⟨v, vm₁, ⟨T', L', k', n'⟩, -, X', ⟨Lc, hQ, l', y', z'⟩, st⟩ := X.interfaceBack hx (xi := xi) (y := y) hown (mvT hZ w1) (mvT hZ w2) (mvT hZ w7 hd7) (mvT hZ w3) (mvT hZ w5) (mvT hZ w8) (mvT hZ w9) (mvT hZ w10) hy (backOf (W := W) M hZ w4 w6 hf hl) qa qb qc (g := mkF m pc Ls stk) rfl hsize (Steps.refl _) (argsL := as) (rest := rest) (lenOf hlen hlen') hstk (by show 2 * 0 + _ ≤ _; rw [Nat.mul_zero, Nat.zero_add]; exact hW) hd (fun _ _ => ⟨rfl, e0, hc, hs⟩)
  dsimp only [Pt.U, Pt.locs, Pt.cells, Pt.slots] at X' l' y' z' st hQ
  subst l' y' z'
  obtain ⟨N', K', hv, hh⟩ := hQ
  subst hv
  refine own_st (fun t => st.trans) (k T' ⟨⟨_, X', N.app N'⟩, hh, ?_⟩)
  exact K
end Calls
/-- an array of references with these elements -/
def own_RA (Z : State) (h : Heap) (a : Addr) (L : List Value) : Prop := ∃ c : Cell, Arr Z h a c (.object "java/lang/Object") ∧ c.slots = L.toArray ∧ Ovr Z c.cls "java/lang/Object"
theorem own_RA.lt {a : Addr} {L : List Value} (B : own_RA Z h a L) : a < h.size := by obtain ⟨c, A, _⟩ := B; exact A.lt
theorem own_RA.ext {a : Addr} {L : List Value} (B : own_RA Z h a L) (E : Ext h h') : own_RA Z h' a L := by obtain ⟨c, A, q⟩ := B; exact ⟨c, A.ext E, q⟩
theorem own_RA.other {a b : Addr} {L : List Value} {sl : Nat} {v : Value} (B : own_RA Z h b L) (W : Wr h h' a sl v) (q : b ≠ a) : own_RA Z h' b L := by obtain ⟨c, A, r⟩ := B; exact ⟨c, A.other W q, r⟩
theorem own_RA.keep {a : Addr} {L : List Value} (B : own_RA Z h a L) (K : Keep h h' ws) (q : a ∉ ws) : own_RA Z h' a L := by obtain ⟨c, A, r⟩ := B; exact ⟨c, ⟨K.2.1 a c A.1 q, A.2⟩, r⟩
/-- the empty array -/
def own_EA (Z : State) (h : Heap) (a : Addr) : Prop := ∃ c : Cell, Arr Z h a c (.object "java/lang/Object") ∧ c.slots = #[]
theorem own_EA.lt {a : Addr} (B : own_EA Z h a) : a < h.size := by obtain ⟨c, A, _⟩ := B; exact A.lt
theorem own_EA.ext {a : Addr} (B : own_EA Z h a) (E : Ext h h') : own_EA Z h' a := by obtain ⟨c, A, q⟩ := B; exact ⟨c, A.ext E, q⟩
theorem own_EA.other {a b : Addr} {sl : Nat} {v : Value} (B : own_EA Z h b) (W : Wr h h' a sl v) (q : b ≠ a) : own_EA Z h' b := by obtain ⟨c, A, r⟩ := B; exact ⟨c, A.other W q, r⟩
theorem own_EA.keep {a : Addr} (B : own_EA Z h a) (K : Keep h h' ws) (q : a ∉ ws) : own_EA Z h' a := by obtain ⟨c, A, r⟩ := B; exact ⟨c, ⟨K.2.1 a c A.1 q, A.2⟩, r⟩
/-- a long array with these elements -/
def own_LA (Z : State) (h : Heap) (a : Addr) (L : List Int64) : Prop := ∃ c : Cell, Arr Z h a c .long ∧ c.slots = (L.map Value.long).toArray
theorem own_LA.lt {a : Addr} {L : List Int64} (B : own_LA Z h a L) : a < h.size := by obtain ⟨c, A, _⟩ := B; exact A.lt
theorem own_LA.ext {a : Addr} {L : List Int64} (B : own_LA Z h a L) (E : Ext h h') : own_LA Z h' a L := by obtain ⟨c, A, q⟩ := B; exact ⟨c, A.ext E, q⟩
theorem own_LA.other {a b : Addr} {L : List Int64} {sl : Nat} {v : Value} (B : own_LA Z h b L) (W : Wr h h' a sl v) (q : b ≠ a) : own_LA Z h' b L := by obtain ⟨c, A, r⟩ := B; exact ⟨c, A.other W q, r⟩
theorem own_LA.keep {a : Addr} {L : List Int64} (B : own_LA Z h a L) (K : Keep h h' ws) (q : a ∉ ws) : own_LA Z h' a L := by obtain ⟨c, A, r⟩ := B; exact ⟨c, ⟨K.2.1 a c A.1 q, A.2⟩, r⟩
theorem own_rload {a : Addr} {L : List Value} {j : Int32} {v : Value} (X : own_S p l e R s m args below meth c n0 h0 ws T h cells slots) (hx : p.tables.exec = Jvm.exec) (hZ : Z.Warmed39 s.vm) (B : own_RA Z h a L) (hj : ¬ j < 0) (hv : L[j.toNatClampNeg]? = some v) (hd : decode c.code pc = .ok (.aaload, 1))
    (k : own_G p e below G T (mkF m (pc + 1) Ls (v :: rest))) : own_G p e below G T (mkF m pc Ls (.int j :: .ref a :: rest)) := by
  obtain ⟨⟨locs, X, N⟩, e0, K⟩ := X
  obtain ⟨cl, A, q, -⟩ := B
  have h1 : cl.slots[j.toNatClampNeg]? = some v := by rw [q]; simpa using hv
  have h2 : ¬ (j < 0 ∨ cl.slots.size ≤ j.toNatClampNeg) := fun z => z.elim hj fun z => by
    have := (Array.getElem?_eq_some_iff.mp h1).1
    omega
  exact own_st (X.aaload hx (j := j) (v := v) (by rw [e0]; exact A.1) (State.isArrayOf_alike hZ.alike A.2.1) rfl A.2.2 h2 h1 (g := mkF m pc Ls (.int j :: .ref a :: rest)) rfl rfl hd) k
theorem own_rstore {a y : Addr} {L : List Value} {j : Int32} (X : own_S p l e R s m args below meth c n0 h0 ws T h cells slots) (hx : p.tables.exec = Jvm.exec) (hZ : Z.Warmed39 s.vm) (B : own_RA Z h a L) (I : Ins Z h y "java/lang/Object" true) (hj : ¬ j < 0) (hv : j.toNatClampNeg < L.length) (hd : decode c.code pc = .ok (.aastore, 1)) (ga : n0 ≤ a) (qa : a ∈ ws ∨ h0.size ≤ a)
    (k : ∀ T' h', own_S p l e R s m args below meth c n0 h0 ws T' h' cells slots → Keep h h' [a] → Wr h h' a j.toNatClampNeg (.ref y) → own_RA Z h' a (L.set j.toNatClampNeg (.ref y)) → own_G p e below G T' (mkF m (pc + 1) Ls rest)) : own_G p e below G T (mkF m pc Ls (.ref y :: .int j :: .ref a :: rest)) := by
  obtain ⟨⟨locs, X, N⟩, e0, K⟩ := X
  obtain ⟨cl, A, q, O⟩ := B
  have h2 : ¬ (j < 0 ∨ cl.slots.size ≤ j.toNatClampNeg) := fun z => z.elim hj fun z => by
    rw [q] at z
    simp at z
    omega
  obtain ⟨T1, h1, X1, e1, W1, st⟩ := stR X hx hZ e0 A (j := j) h2 rfl (Sto.of A O I) (g := mkF m pc Ls (.ref y :: .int j :: .ref a :: rest)) rfl rfl hd
  refine own_st st (k T1 h1 ⟨⟨_, X1, Fr.snoc X1 N ga⟩, e1, K.wr W1 qa⟩ (Keep.of_wr W1) W1 ⟨_, A.same W1, ?_, O⟩)
  show (cl.slots.setIfInBounds j.toNatClampNeg _) = _
  rw [q]
  simp
theorem own_newRA {n : Int32} {kk : Nat} (X : own_S p l e R s m args below meth c n0 h0 ws T h cells slots) (hx : p.tables.exec = Jvm.exec) (hZ : Z.Warmed39 s.vm) (hown : s.vm.findClass own = some m.cls) (w1 : (Jvm.Cond.classLink own index "java/lang/Object").before a0 Z = true) (w2 : (Jvm.Cond.arrayOver (.object "java/lang/Object")).before a0 Z = true) (hn : ¬ n < 0) (hk : n.toNatClampNeg = kk) (hb : kk * 8 ≤ 536870912) (hc : cells + 1 ≤ R.cells) (hl : slots + kk ≤ R.slots) (hd : decode c.code pc = .ok (.anewarray index, 3))
    (k : ∀ T' h' (b : Addr), b = h.size → h0.size ≤ b → own_S p l e R s m args below meth c n0 h0 ws T' h' (cells + 1) (slots + kk) → Ext h h' → own_RA Z h' b (List.replicate kk .null) → own_G p e below G T' (mkF m (pc + 3) Ls (.ref b :: rest))) : own_G p e below G T (mkF m pc Ls (.int n :: rest)) := by
  obtain ⟨⟨locs, X, N⟩, e0, K⟩ := X
  obtain ⟨T1, h1, cA, X1, e1, E1, A1, O1, st⟩ := newR X hx hZ hown w1 w2 e0 (g := mkF m pc Ls (.int n :: rest)) rfl hd rfl hn (cap := kk) (Nat.le_of_eq hk) hb hc hl
  refine own_st st (k T1 h1 _ rfl K.1 ⟨⟨_, X1, N⟩, e1, K.ext E1⟩ E1 ⟨_, A1, ?_, O1⟩)
  show Array.replicate n.toNatClampNeg (defaultValue _) = _
  rw [hk]
  simp [defaultValue]
theorem own_alen {a : Addr} {cl : Cell} {ty : FieldType} {n : Int32} (X : own_S p l e R s m args below meth c n0 h0 ws T h cells slots) (hx : p.tables.exec = Jvm.exec) (hZ : Z.Warmed39 s.vm) (A : Arr Z h a cl ty) (hn : cl.slots.size.toInt32 = n) (hd : decode c.code pc = .ok (.arraylength, 1))
    (k : own_G p e below G T (mkF m (pc + 1) Ls (.int n :: rest))) : own_G p e below G T (mkF m pc Ls (.ref a :: rest)) := by
  obtain ⟨⟨locs, X, N⟩, e0, K⟩ := X
  refine own_st (fun t k => X.arraylength hx (by rw [e0]; exact A.1) (State.isArrayOf_alike hZ.alike A.2.1) (g := mkF m pc Ls (.ref a :: rest)) rfl rfl hd t (by rw [hn]; exact k)) k
theorem own_RA.len {a : Addr} {L : List Value} (B : own_RA Z h a L) : ∃ cl, Arr Z h a cl (.object "java/lang/Object") ∧ cl.slots.size = L.length := by obtain ⟨c, A, q, -⟩ := B; exact ⟨c, A, by rw [q]; simp⟩
theorem own_EA.len {a : Addr} (B : own_EA Z h a) : ∃ cl, Arr Z h a cl (.object "java/lang/Object") ∧ cl.slots.size = 0 := by obtain ⟨c, A, q⟩ := B; exact ⟨c, A, by rw [q]; rfl⟩
theorem own_LA.len {a : Addr} {L : List Int64} (B : own_LA Z h a L) : ∃ cl, Arr Z h a cl .long ∧ cl.slots.size = L.length := by obtain ⟨c, A, q⟩ := B; exact ⟨c, A, by rw [q]; simp⟩
theorem own_lload {a : Addr} {L : List Int64} {j : Int32} {v : Int64} (X : own_S p l e R s m args below meth c n0 h0 ws T h cells slots) (hx : p.tables.exec = Jvm.exec) (hZ : Z.Warmed39 s.vm) (B : own_LA Z h a L) (hj : ¬ j < 0) (hv : L[j.toNatClampNeg]? = some v) (hd : decode c.code pc = .ok (.laload, 1))
    (k : own_G p e below G T (mkF m (pc + 1) Ls (.long v :: rest))) : own_G p e below G T (mkF m pc Ls (.int j :: .ref a :: rest)) := by
  obtain ⟨⟨locs, X, N⟩, e0, K⟩ := X
  obtain ⟨cl, A, q⟩ := B
  have h1 : cl.slots[j.toNatClampNeg]? = some (.long v) := by rw [q]; simp [hv]
  have h2 : ¬ (j < 0 ∨ cl.slots.size ≤ j.toNatClampNeg) := fun z => z.elim hj fun z => by
    have := (Array.getElem?_eq_some_iff.mp h1).1
    omega
  exact own_st (X.laload hx (j := j) (v := .long v) (by rw [e0]; exact A.1) (State.isArrayOf_alike hZ.alike A.2.1) A.2.2 h2 h1 (g := mkF m pc Ls (.int j :: .ref a :: rest)) rfl rfl hd) k
theorem own_lstore {a : Addr} {L : List Int64} {j : Int32} {x : Int64} (X : own_S p l e R s m args below meth c n0 h0 ws T h cells slots) (hx : p.tables.exec = Jvm.exec) (hZ : Z.Warmed39 s.vm) (B : own_LA Z h a L) (hj : ¬ j < 0) (hv : j.toNatClampNeg < L.length) (hd : decode c.code pc = .ok (.lastore, 1)) (ga : n0 ≤ a) (qa : a ∈ ws ∨ h0.size ≤ a)
    (k : ∀ T' h', own_S p l e R s m args below meth c n0 h0 ws T' h' cells slots → Keep h h' [a] → own_LA Z h' a (L.set j.toNatClampNeg x) → own_G p e below G T' (mkF m (pc + 1) Ls rest)) : own_G p e below G T (mkF m pc Ls (.long x :: .int j :: .ref a :: rest)) := by
  obtain ⟨⟨locs, X, N⟩, e0, K⟩ := X
  obtain ⟨cl, A, q⟩ := B
  have h2 : ¬ (j < 0 ∨ cl.slots.size ≤ j.toNatClampNeg) := fun z => z.elim hj fun z => by
    rw [q] at z
    simp at z
    omega
  obtain ⟨T1, h1, X1, e1, W1, st⟩ := stJ X hx hZ e0 A (j := j) (x := x) h2 (g := mkF m pc Ls (.long x :: .int j :: .ref a :: rest)) rfl rfl hd
  refine own_st st (k T1 h1 ⟨⟨_, X1, Fr.snoc X1 N ga⟩, e1, K.wr W1 qa⟩ (Keep.of_wr W1) ⟨_, A.same W1, ?_⟩)
  show (cl.slots.setIfInBounds j.toNatClampNeg _) = _
  rw [q]
  simp
theorem own_newL {n : Int32} {kk : Nat} (X : own_S p l e R s m args below meth c n0 h0 ws T h cells slots) (hx : p.tables.exec = Jvm.exec) (hZ : Z.Warmed39 s.vm) (w : (Jvm.Cond.arrayClass .long).before a0 Z = true) (hn : ¬ n < 0) (hk : n.toNatClampNeg = kk) (hb : kk * 8 ≤ 536870912) (hc : cells + 1 ≤ R.cells) (hl : slots + kk ≤ R.slots) (hd : decode c.code pc = .ok (.newarray .long, 2))
    (k : ∀ T' h' (b : Addr), b = h.size → h0.size ≤ b → own_S p l e R s m args below meth c n0 h0 ws T' h' (cells + 1) (slots + kk) → Ext h h' → own_LA Z h' b (List.replicate kk 0) → own_G p e below G T' (mkF m (pc + 2) Ls (.ref b :: rest))) : own_G p e below G T (mkF m pc Ls (.int n :: rest)) := by
  obtain ⟨⟨locs, X, N⟩, e0, K⟩ := X
  obtain ⟨T1, h1, cA, X1, e1, E1, A1, st⟩ := newP X hx hZ (aty := .long) w e0 (g := mkF m pc Ls (.int n :: rest)) rfl hd rfl hn (cap := kk) (Nat.le_of_eq hk) hb hc hl
  refine own_st st (k T1 h1 _ rfl K.1 ⟨⟨_, X1, N⟩, e1, K.ext E1⟩ E1 ⟨_, A1, ?_⟩)
  show Array.replicate n.toNatClampNeg (defaultValue .long) = _
  rw [hk]
  simp [defaultValue]
theorem own_chk {a : Addr} {K0 : String} (X : own_S p l e R s m args below meth c n0 h0 ws T h cells slots) (hx : p.tables.exec = Jvm.exec) (hZ : Z.Warmed39 s.vm) (hown : s.vm.findClass own = some m.cls) (w : (Jvm.Cond.classLink own index K0).before a0 Z = true) (E : Exa Z h a K0) (hd : decode c.code pc = .ok (.checkcast index, 3))
    (k : ∀ T', own_S p l e R s m args below meth c n0 h0 ws T' h cells slots → own_G p e below G T' (mkF m (pc + 3) Ls (.ref a :: rest))) : own_G p e below G T (mkF m pc Ls (.ref a :: rest)) := by
  obtain ⟨⟨locs, X, N⟩, e0, K⟩ := X
  obtain ⟨T1, X1, e1, st⟩ := castY X hx hZ hown w e0 (Ins.self E) (g := mkF m pc Ls (.ref a :: rest)) rfl rfl hd
  exact own_st st (k T1 ⟨⟨_, X1, N⟩, e1, K⟩)
theorem own_Sta_keep {C n d : String} {v : Value} (F : Sta Z h C n d v) (K : Keep h h' ws) (q : ∀ x ∈ ws, ∀ c : Cell, h[x]? = some c → c.vm.isStatics = false) : Sta Z h' C n d v := by
  obtain ⟨cf, i, k, f, st, cell, h1, h2, h3, h4, h5, h6, h7⟩ := F
  refine ⟨cf, i, k, f, st, cell, h1, h2, h3, h4, K.2.1 st cell h5 fun z => ?_, h6, h7⟩
  rw [q st z cell h5] at h6
  cases h6
theorem own_exa_ns {a : Addr} {C : String} (E : Exa Z h a C) : ∀ c : Cell, h[a]? = some c → c.vm.isStatics = false := by
  obtain ⟨cell, k, h1, -, -, h4, -⟩ := E
  intro c hc
  cases h1.symm.trans hc
  exact h4
theorem own_ra_ns {a : Addr} {L : List Value} (E : own_RA Z h a L) : ∀ c : Cell, h[a]? = some c → c.vm.isStatics = false := by
  obtain ⟨cell, A, -⟩ := E
  intro c hc
  cases A.1.symm.trans hc
  exact A.plain
theorem own_S.more {cells' slots' : Nat} (X : own_S p l e R s m args below meth c n0 h0 ws T h cells slots) (h1 : cells ≤ cells') (h2 : slots ≤ slots') : own_S p l e R s m args below meth c n0 h0 ws T h cells' slots' := by
  obtain ⟨⟨locs, X, N⟩, e0, K⟩ := X
  exact ⟨⟨locs, X.more h1 h2, N⟩, e0, K⟩
end OwnR
theorem own_w0 {Z : State} {a0 : Array Value} (hw : ∀ d ∈ tables_1, d.before a0 Z = true) : (Jvm.Cond.methodLink "com/example/bidwright/bidwright/allocation/SupplyMostPinLaw" (7 : Nat) ({ cls := "java/lang/Math", name := "max", desc := "(II)I" } : Jvm.MethodName)).before a0 Z = true := hw _ (List.mem_of_getElem? (i := 0) rfl)
theorem own_w1 {Z : State} {a0 : Array Value} (hw : ∀ d ∈ tables_1, d.before a0 Z = true) : (Jvm.Cond.static ({ cls := "java/lang/Math", name := "max", desc := "(II)I" } : Jvm.MethodName)).before a0 Z = true := hw _ (List.mem_of_getElem? (i := 1) rfl)
theorem own_w2 {Z : State} {a0 : Array Value} (hw : ∀ d ∈ tables_1, d.before a0 Z = true) : (Jvm.Cond.initialized "java/lang/Math").before a0 Z = true := hw _ (List.mem_of_getElem? (i := 2) rfl)
theorem own_w3 {Z : State} {a0 : Array Value} (hw : ∀ d ∈ tables_1, d.before a0 Z = true) : (Jvm.Cond.code ({ cls := "java/lang/Math", name := "max", desc := "(II)I" } : Jvm.MethodName) jdk_29_method_65_code (2 : Nat) (Option.some Jvm.ClassFile.FieldType.int)).before a0 Z = true := hw _ (List.mem_of_getElem? (i := 3) rfl)
theorem own_w4 {Z : State} {a0 : Array Value} (hw : ∀ d ∈ tables_1, d.before a0 Z = true) : (Jvm.Cond.methodLink "com/example/bidwright/bidwright/allocation/SupplyMostPinLaw" (13 : Nat) ({ cls := "java/lang/Math", name := "min", desc := "(II)I" } : Jvm.MethodName)).before a0 Z = true := hw _ (List.mem_of_getElem? (i := 4) rfl)
theorem own_w5 {Z : State} {a0 : Array Value} (hw : ∀ d ∈ tables_1, d.before a0 Z = true) : (Jvm.Cond.static ({ cls := "java/lang/Math", name := "min", desc := "(II)I" } : Jvm.MethodName)).before a0 Z = true := hw _ (List.mem_of_getElem? (i := 5) rfl)
theorem own_w6 {Z : State} {a0 : Array Value} (hw : ∀ d ∈ tables_1, d.before a0 Z = true) : (Jvm.Cond.code ({ cls := "java/lang/Math", name := "min", desc := "(II)I" } : Jvm.MethodName) jdk_29_method_69_code (2 : Nat) (Option.some Jvm.ClassFile.FieldType.int)).before a0 Z = true := hw _ (List.mem_of_getElem? (i := 6) rfl)
theorem own_w7 {Z : State} {a0 : Array Value} (hw : ∀ d ∈ tables_1, d.before a0 Z = true) : (Jvm.Cond.constantLong "com/example/bidwright/bidwright/allocation/SupplyMostPinLaw" (16 : Nat) (16777215 : Int64)).before a0 Z = true := hw _ (List.mem_of_getElem? (i := 7) rfl)
theorem own_w8 {Z : State} {a0 : Array Value} (hw : ∀ d ∈ tables_1, d.before a0 Z = true) : (Jvm.Cond.constantLong "com/example/bidwright/bidwright/allocation/SupplyMostPinLaw" (18 : Nat) (10000001 : Int64)).before a0 Z = true := hw _ (List.mem_of_getElem? (i := 8) rfl)
theorem own_w9 {Z : State} {a0 : Array Value} (hw : ∀ d ∈ tables_1, d.before a0 Z = true) : (Jvm.Cond.methodLink "com/example/bidwright/bidwright/allocation/SupplyMostPinLaw" (20 : Nat) ({ cls := "com/example/bidwright/bidwright/market/Money", name := "cents", desc := "(J)Lcom/example/bidwright/bidwright/market/Money;" } : Jvm.MethodName)).before a0 Z = true := hw _ (List.mem_of_getElem? (i := 9) rfl)
theorem own_w10 {Z : State} {a0 : Array Value} (hw : ∀ d ∈ tables_1, d.before a0 Z = true) : (Jvm.Cond.static ({ cls := "com/example/bidwright/bidwright/market/Money", name := "cents", desc := "(J)Lcom/example/bidwright/bidwright/market/Money;" } : Jvm.MethodName)).before a0 Z = true := hw _ (List.mem_of_getElem? (i := 10) rfl)
theorem own_w11 {Z : State} {a0 : Array Value} (hw : ∀ d ∈ tables_1, d.before a0 Z = true) : (Jvm.Cond.initialized "com/example/bidwright/bidwright/market/Money").before a0 Z = true := hw _ (List.mem_of_getElem? (i := 11) rfl)
theorem own_w12 {Z : State} {a0 : Array Value} (hw : ∀ d ∈ tables_1, d.before a0 Z = true) : (Jvm.Cond.code ({ cls := "com/example/bidwright/bidwright/market/Money", name := "cents", desc := "(J)Lcom/example/bidwright/bidwright/market/Money;" } : Jvm.MethodName) prog_111_method_3_code (2 : Nat) (Option.some (Jvm.ClassFile.FieldType.object "com/example/bidwright/bidwright/market/Money"))).before a0 Z = true := hw _ (List.mem_of_getElem? (i := 12) rfl)
theorem own_w13 {Z : State} {a0 : Array Value} (hw : ∀ d ∈ tables_1, d.before a0 Z = true) : (Jvm.Cond.classLink "com/example/bidwright/bidwright/market/Money" (8 : Nat) "com/example/bidwright/bidwright/market/Money").before a0 Z = true := hw _ (List.mem_of_getElem? (i := 13) rfl)
theorem own_w14 {Z : State} {a0 : Array Value} (hw : ∀ d ∈ tables_1, d.before a0 Z = true) : (Jvm.Cond.instantiable "com/example/bidwright/bidwright/market/Money" (1 : Nat)).before a0 Z = true := hw _ (List.mem_of_getElem? (i := 14) rfl)
theorem own_w15 {Z : State} {a0 : Array Value} (hw : ∀ d ∈ tables_1, d.before a0 Z = true) : (Jvm.Cond.methodLink "com/example/bidwright/bidwright/market/Money" (19 : Nat) ({ cls := "com/example/bidwright/bidwright/market/Money", name := "<init>", desc := "(J)V" } : Jvm.MethodName)).before a0 Z = true := hw _ (List.mem_of_getElem? (i := 15) rfl)
theorem own_w16 {Z : State} {a0 : Array Value} (hw : ∀ d ∈ tables_1, d.before a0 Z = true) : (Jvm.Cond.instanceMethod ({ cls := "com/example/bidwright/bidwright/market/Money", name := "<init>", desc := "(J)V" } : Jvm.MethodName)).before a0 Z = true := hw _ (List.mem_of_getElem? (i := 16) rfl)
theorem own_w17 {Z : State} {a0 : Array Value} (hw : ∀ d ∈ tables_1, d.before a0 Z = true) : (Jvm.Cond.code ({ cls := "com/example/bidwright/bidwright/market/Money", name := "<init>", desc := "(J)V" } : Jvm.MethodName) prog_111_method_1_code (3 : Nat) (Option.none : Option Jvm.ClassFile.FieldType)).before a0 Z = true := hw _ (List.mem_of_getElem? (i := 17) rfl)
theorem own_w18 {Z : State} {a0 : Array Value} (hw : ∀ d ∈ tables_1, d.before a0 Z = true) : (Jvm.Cond.methodLink "com/example/bidwright/bidwright/market/Money" (1 : Nat) ({ cls := "java/lang/Object", name := "<init>", desc := "()V" } : Jvm.MethodName)).before a0 Z = true := hw _ (List.mem_of_getElem? (i := 18) rfl)
theorem own_w19 {Z : State} {a0 : Array Value} (hw : ∀ d ∈ tables_1, d.before a0 Z = true) : (Jvm.Cond.instanceMethod ({ cls := "java/lang/Object", name := "<init>", desc := "()V" } : Jvm.MethodName)).before a0 Z = true := hw _ (List.mem_of_getElem? (i := 19) rfl)
theorem own_w20 {Z : State} {a0 : Array Value} (hw : ∀ d ∈ tables_1, d.before a0 Z = true) : (Jvm.Cond.code ({ cls := "java/lang/Object", name := "<init>", desc := "()V" } : Jvm.MethodName) object_method_1_code (1 : Nat) (Option.none : Option Jvm.ClassFile.FieldType)).before a0 Z = true := hw _ (List.mem_of_getElem? (i := 20) rfl)
theorem own_w21 {Z : State} {a0 : Array Value} (hw : ∀ d ∈ tables_1, d.before a0 Z = true) : (Jvm.Cond.fieldLink "com/example/bidwright/bidwright/market/Money" (7 : Nat) "com/example/bidwright/bidwright/market/Money" "cents" "J").before a0 Z = true := hw _ (List.mem_of_getElem? (i := 21) rfl)
theorem own_w22 {Z : State} {a0 : Array Value} (hw : ∀ d ∈ tables_1, d.before a0 Z = true) : (Jvm.Cond.laysFinal "com/example/bidwright/bidwright/market/Money" "com/example/bidwright/bidwright/market/Money" "cents" "J").before a0 Z = true := hw _ (List.mem_of_getElem? (i := 22) rfl)
theorem own_w23 {Z : State} {a0 : Array Value} (hw : ∀ d ∈ tables_1, d.before a0 Z = true) : (Jvm.Cond.classLink "com/example/bidwright/bidwright/allocation/SupplyMostPinLaw" (26 : Nat) "java/util/ArrayList").before a0 Z = true := hw _ (List.mem_of_getElem? (i := 23) rfl)
theorem own_w24 {Z : State} {a0 : Array Value} (hw : ∀ d ∈ tables_1, d.before a0 Z = true) : (Jvm.Cond.instantiable "java/util/ArrayList" (3 : Nat)).before a0 Z = true := hw _ (List.mem_of_getElem? (i := 24) rfl)
theorem own_w25 {Z : State} {a0 : Array Value} (hw : ∀ d ∈ tables_1, d.before a0 Z = true) : (Jvm.Cond.initialized "java/util/ArrayList").before a0 Z = true := hw _ (List.mem_of_getElem? (i := 25) rfl)
theorem own_w26 {Z : State} {a0 : Array Value} (hw : ∀ d ∈ tables_1, d.before a0 Z = true) : (Jvm.Cond.methodLink "com/example/bidwright/bidwright/allocation/SupplyMostPinLaw" (28 : Nat) ({ cls := "java/util/ArrayList", name := "<init>", desc := "()V" } : Jvm.MethodName)).before a0 Z = true := hw _ (List.mem_of_getElem? (i := 26) rfl)
theorem own_w27 {Z : State} {a0 : Array Value} (hw : ∀ d ∈ tables_1, d.before a0 Z = true) : (Jvm.Cond.instanceMethod ({ cls := "java/util/ArrayList", name := "<init>", desc := "()V" } : Jvm.MethodName)).before a0 Z = true := hw _ (List.mem_of_getElem? (i := 27) rfl)
theorem own_w28 {Z : State} {a0 : Array Value} (hw : ∀ d ∈ tables_1, d.before a0 Z = true) : (Jvm.Cond.code ({ cls := "java/util/ArrayList", name := "<init>", desc := "()V" } : Jvm.MethodName) jdk_38_method_2_code (1 : Nat) (Option.none : Option Jvm.ClassFile.FieldType)).before a0 Z = true := hw _ (List.mem_of_getElem? (i := 28) rfl)
theorem own_w29 {Z : State} {a0 : Array Value} (hw : ∀ d ∈ tables_1, d.before a0 Z = true) : (Jvm.Cond.methodLink "java/util/ArrayList" (1 : Nat) ({ cls := "java/util/AbstractList", name := "<init>", desc := "()V" } : Jvm.MethodName)).before a0 Z = true := hw _ (List.mem_of_getElem? (i := 29) rfl)
theorem own_w30 {Z : State} {a0 : Array Value} (hw : ∀ d ∈ tables_1, d.before a0 Z = true) : (Jvm.Cond.instanceMethod ({ cls := "java/util/AbstractList", name := "<init>", desc := "()V" } : Jvm.MethodName)).before a0 Z = true := hw _ (List.mem_of_getElem? (i := 30) rfl)
theorem own_w31 {Z : State} {a0 : Array Value} (hw : ∀ d ∈ tables_1, d.before a0 Z = true) : (Jvm.Cond.declares ({ cls := "java/util/AbstractList", name := "<init>", desc := "()V" } : Jvm.MethodName)).before a0 Z = true := hw _ (List.mem_of_getElem? (i := 31) rfl)
theorem own_w32 {Z : State} {a0 : Array Value} (hw : ∀ d ∈ tables_1, d.before a0 Z = true) : (Jvm.Cond.castable "java/util/ArrayList" "java/util/AbstractList").before a0 Z = true := hw _ (List.mem_of_getElem? (i := 32) rfl)
theorem own_w33 {Z : State} {a0 : Array Value} (hw : ∀ d ∈ tables_1, d.before a0 Z = true) : (Jvm.Cond.initialized "java/util/AbstractList").before a0 Z = true := hw _ (List.mem_of_getElem? (i := 33) rfl)
theorem own_w34 {Z : State} {a0 : Array Value} (hw : ∀ d ∈ tables_1, d.before a0 Z = true) : (Jvm.Cond.code ({ cls := "java/util/AbstractList", name := "<init>", desc := "()V" } : Jvm.MethodName) jdk_39_method_1_code (1 : Nat) (Option.none : Option Jvm.ClassFile.FieldType)).before a0 Z = true := hw _ (List.mem_of_getElem? (i := 34) rfl)
theorem own_w35 {Z : State} {a0 : Array Value} (hw : ∀ d ∈ tables_1, d.before a0 Z = true) : (Jvm.Cond.methodLink "java/util/AbstractList" (1 : Nat) ({ cls := "java/util/AbstractCollection", name := "<init>", desc := "()V" } : Jvm.MethodName)).before a0 Z = true := hw _ (List.mem_of_getElem? (i := 35) rfl)
theorem own_w36 {Z : State} {a0 : Array Value} (hw : ∀ d ∈ tables_1, d.before a0 Z = true) : (Jvm.Cond.instanceMethod ({ cls := "java/util/AbstractCollection", name := "<init>", desc := "()V" } : Jvm.MethodName)).before a0 Z = true := hw _ (List.mem_of_getElem? (i := 36) rfl)
theorem own_w37 {Z : State} {a0 : Array Value} (hw : ∀ d ∈ tables_1, d.before a0 Z = true) : (Jvm.Cond.declares ({ cls := "java/util/AbstractCollection", name := "<init>", desc := "()V" } : Jvm.MethodName)).before a0 Z = true := hw _ (List.mem_of_getElem? (i := 37) rfl)
theorem own_w38 {Z : State} {a0 : Array Value} (hw : ∀ d ∈ tables_1, d.before a0 Z = true) : (Jvm.Cond.castable "java/util/ArrayList" "java/util/AbstractCollection").before a0 Z = true := hw _ (List.mem_of_getElem? (i := 38) rfl)
theorem own_w39 {Z : State} {a0 : Array Value} (hw : ∀ d ∈ tables_1, d.before a0 Z = true) : (Jvm.Cond.initialized "java/util/AbstractCollection").before a0 Z = true := hw _ (List.mem_of_getElem? (i := 39) rfl)
theorem own_w40 {Z : State} {a0 : Array Value} (hw : ∀ d ∈ tables_1, d.before a0 Z = true) : (Jvm.Cond.code ({ cls := "java/util/AbstractCollection", name := "<init>", desc := "()V" } : Jvm.MethodName) jdk_22_method_1_code (1 : Nat) (Option.none : Option Jvm.ClassFile.FieldType)).before a0 Z = true := hw _ (List.mem_of_getElem? (i := 40) rfl)
theorem own_w41 {Z : State} {a0 : Array Value} (hw : ∀ d ∈ tables_1, d.before a0 Z = true) : (Jvm.Cond.methodLink "java/util/AbstractCollection" (1 : Nat) ({ cls := "java/lang/Object", name := "<init>", desc := "()V" } : Jvm.MethodName)).before a0 Z = true := hw _ (List.mem_of_getElem? (i := 41) rfl)
theorem own_w42 {Z : State} {a0 : Array Value} (hw : ∀ d ∈ tables_1, d.before a0 Z = true) : (Jvm.Cond.fieldLink "java/util/AbstractList" (7 : Nat) "java/util/AbstractList" "modCount" "I").before a0 Z = true := hw _ (List.mem_of_getElem? (i := 42) rfl)
theorem own_w43 {Z : State} {a0 : Array Value} (hw : ∀ d ∈ tables_1, d.before a0 Z = true) : (Jvm.Cond.lays "java/util/ArrayList" "java/util/AbstractList" "modCount" "I").before a0 Z = true := hw _ (List.mem_of_getElem? (i := 43) rfl)
theorem own_w44 {Z : State} {a0 : Array Value} (hw : ∀ d ∈ tables_1, d.before a0 Z = true) : (Jvm.Cond.fieldLink "java/util/ArrayList" (39 : Nat) "java/util/ArrayList" "DEFAULTCAPACITY_EMPTY_ELEMENTDATA" "[Ljava/lang/Object;").before a0 Z = true := hw _ (List.mem_of_getElem? (i := 44) rfl)
theorem own_w45 {Z : State} {a0 : Array Value} (hw : ∀ d ∈ tables_1, d.before a0 Z = true) : (Jvm.Cond.fieldLink "java/util/ArrayList" (9 : Nat) "java/util/ArrayList" "elementData" "[Ljava/lang/Object;").before a0 Z = true := hw _ (List.mem_of_getElem? (i := 45) rfl)
theorem own_w46 {Z : State} {a0 : Array Value} (hw : ∀ d ∈ tables_1, d.before a0 Z = true) : (Jvm.Cond.lays "java/util/ArrayList" "java/util/ArrayList" "elementData" "[Ljava/lang/Object;").before a0 Z = true := hw _ (List.mem_of_getElem? (i := 46) rfl)
theorem own_w47 {Z : State} {a0 : Array Value} (hw : ∀ d ∈ tables_1, d.before a0 Z = true) : (Jvm.Cond.methodLink "com/example/bidwright/bidwright/allocation/SupplyMostPinLaw" (29 : Nat) ({ cls := "java/util/ArrayList", name := "add", desc := "(Ljava/lang/Object;)Z" } : Jvm.MethodName)).before a0 Z = true := hw _ (List.mem_of_getElem? (i := 47) rfl)
theorem own_w48 {Z : State} {a0 : Array Value} (hw : ∀ d ∈ tables_1, d.before a0 Z = true) : (Jvm.Cond.declares ({ cls := "java/util/ArrayList", name := "add", desc := "(Ljava/lang/Object;)Z" } : Jvm.MethodName)).before a0 Z = true := hw _ (List.mem_of_getElem? (i := 48) rfl)
theorem own_w49 {Z : State} {a0 : Array Value} (hw : ∀ d ∈ tables_1, d.before a0 Z = true) : (Jvm.Cond.instanceMethod ({ cls := "java/util/ArrayList", name := "add", desc := "(Ljava/lang/Object;)Z" } : Jvm.MethodName)).before a0 Z = true := hw _ (List.mem_of_getElem? (i := 49) rfl)
theorem own_w50 {Z : State} {a0 : Array Value} (hw : ∀ d ∈ tables_1, d.before a0 Z = true) : (Jvm.Cond.selects "java/util/ArrayList" ({ cls := "java/util/ArrayList", name := "add", desc := "(Ljava/lang/Object;)Z" } : Jvm.MethodName) ({ cls := "java/util/ArrayList", name := "add", desc := "(Ljava/lang/Object;)Z" } : Jvm.MethodName)).before a0 Z = true := hw _ (List.mem_of_getElem? (i := 50) rfl)
theorem own_w51 {Z : State} {a0 : Array Value} (hw : ∀ d ∈ tables_1, d.before a0 Z = true) : (Jvm.Cond.code ({ cls := "java/util/ArrayList", name := "add", desc := "(Ljava/lang/Object;)Z" } : Jvm.MethodName) jdk_38_method_25_code (2 : Nat) (Option.some Jvm.ClassFile.FieldType.boolean)).before a0 Z = true := hw _ (List.mem_of_getElem? (i := 51) rfl)
theorem own_w52 {Z : State} {a0 : Array Value} (hw : ∀ d ∈ tables_1, d.before a0 Z = true) : (Jvm.Cond.fieldLink "java/util/ArrayList" (63 : Nat) "java/util/ArrayList" "modCount" "I").before a0 Z = true := hw _ (List.mem_of_getElem? (i := 52) rfl)
theorem own_w53 {Z : State} {a0 : Array Value} (hw : ∀ d ∈ tables_1, d.before a0 Z = true) : (Jvm.Cond.sameField "java/util/ArrayList" "java/util/AbstractList" "modCount" "I").before a0 Z = true := hw _ (List.mem_of_getElem? (i := 53) rfl)
theorem own_w54 {Z : State} {a0 : Array Value} (hw : ∀ d ∈ tables_1, d.before a0 Z = true) : (Jvm.Cond.fieldLink "java/util/ArrayList" (48 : Nat) "java/util/ArrayList" "size" "I").before a0 Z = true := hw _ (List.mem_of_getElem? (i := 54) rfl)
theorem own_w55 {Z : State} {a0 : Array Value} (hw : ∀ d ∈ tables_1, d.before a0 Z = true) : (Jvm.Cond.lays "java/util/ArrayList" "java/util/ArrayList" "size" "I").before a0 Z = true := hw _ (List.mem_of_getElem? (i := 55) rfl)
theorem own_w56 {Z : State} {a0 : Array Value} (hw : ∀ d ∈ tables_1, d.before a0 Z = true) : (Jvm.Cond.methodLink "java/util/ArrayList" (131 : Nat) ({ cls := "java/util/ArrayList", name := "add", desc := "(Ljava/lang/Object;[Ljava/lang/Object;I)V" } : Jvm.MethodName)).before a0 Z = true := hw _ (List.mem_of_getElem? (i := 56) rfl)
theorem own_w57 {Z : State} {a0 : Array Value} (hw : ∀ d ∈ tables_1, d.before a0 Z = true) : (Jvm.Cond.instanceMethod ({ cls := "java/util/ArrayList", name := "add", desc := "(Ljava/lang/Object;[Ljava/lang/Object;I)V" } : Jvm.MethodName)).before a0 Z = true := hw _ (List.mem_of_getElem? (i := 57) rfl)
theorem own_w58 {Z : State} {a0 : Array Value} (hw : ∀ d ∈ tables_1, d.before a0 Z = true) : (Jvm.Cond.privateMethod ({ cls := "java/util/ArrayList", name := "add", desc := "(Ljava/lang/Object;[Ljava/lang/Object;I)V" } : Jvm.MethodName)).before a0 Z = true := hw _ (List.mem_of_getElem? (i := 58) rfl)
theorem own_w59 {Z : State} {a0 : Array Value} (hw : ∀ d ∈ tables_1, d.before a0 Z = true) : (Jvm.Cond.selects "java/util/ArrayList" ({ cls := "java/util/ArrayList", name := "add", desc := "(Ljava/lang/Object;[Ljava/lang/Object;I)V" } : Jvm.MethodName) ({ cls := "java/util/ArrayList", name := "add", desc := "(Ljava/lang/Object;[Ljava/lang/Object;I)V" } : Jvm.MethodName)).before a0 Z = true := hw _ (List.mem_of_getElem? (i := 59) rfl)
theorem own_w60 {Z : State} {a0 : Array Value} (hw : ∀ d ∈ tables_1, d.before a0 Z = true) : (Jvm.Cond.code ({ cls := "java/util/ArrayList", name := "add", desc := "(Ljava/lang/Object;[Ljava/lang/Object;I)V" } : Jvm.MethodName) jdk_38_method_24_code (4 : Nat) (Option.none : Option Jvm.ClassFile.FieldType)).before a0 Z = true := hw _ (List.mem_of_getElem? (i := 60) rfl)
theorem own_w61 {Z : State} {a0 : Array Value} (hw : ∀ d ∈ tables_1, d.before a0 Z = true) : (Jvm.Cond.methodLink "java/util/ArrayList" (129 : Nat) ({ cls := "java/util/ArrayList", name := "grow", desc := "()[Ljava/lang/Object;" } : Jvm.MethodName)).before a0 Z = true := hw _ (List.mem_of_getElem? (i := 61) rfl)
theorem own_w62 {Z : State} {a0 : Array Value} (hw : ∀ d ∈ tables_1, d.before a0 Z = true) : (Jvm.Cond.instanceMethod ({ cls := "java/util/ArrayList", name := "grow", desc := "()[Ljava/lang/Object;" } : Jvm.MethodName)).before a0 Z = true := hw _ (List.mem_of_getElem? (i := 62) rfl)
theorem own_w63 {Z : State} {a0 : Array Value} (hw : ∀ d ∈ tables_1, d.before a0 Z = true) : (Jvm.Cond.privateMethod ({ cls := "java/util/ArrayList", name := "grow", desc := "()[Ljava/lang/Object;" } : Jvm.MethodName)).before a0 Z = true := hw _ (List.mem_of_getElem? (i := 63) rfl)
theorem own_w64 {Z : State} {a0 : Array Value} (hw : ∀ d ∈ tables_1, d.before a0 Z = true) : (Jvm.Cond.selects "java/util/ArrayList" ({ cls := "java/util/ArrayList", name := "grow", desc := "()[Ljava/lang/Object;" } : Jvm.MethodName) ({ cls := "java/util/ArrayList", name := "grow", desc := "()[Ljava/lang/Object;" } : Jvm.MethodName)).before a0 Z = true := hw _ (List.mem_of_getElem? (i := 64) rfl)
theorem own_w65 {Z : State} {a0 : Array Value} (hw : ∀ d ∈ tables_1, d.before a0 Z = true) : (Jvm.Cond.code ({ cls := "java/util/ArrayList", name := "grow", desc := "()[Ljava/lang/Object;" } : Jvm.MethodName) jdk_38_method_7_code (1 : Nat) (Option.some (Jvm.ClassFile.FieldType.array (Jvm.ClassFile.FieldType.object "java/lang/Object")))).before a0 Z = true := hw _ (List.mem_of_getElem? (i := 65) rfl)
theorem own_w66 {Z : State} {a0 : Array Value} (hw : ∀ d ∈ tables_1, d.before a0 Z = true) : (Jvm.Cond.methodLink "java/util/ArrayList" (69 : Nat) ({ cls := "java/util/ArrayList", name := "grow", desc := "(I)[Ljava/lang/Object;" } : Jvm.MethodName)).before a0 Z = true := hw _ (List.mem_of_getElem? (i := 66) rfl)
theorem own_w67 {Z : State} {a0 : Array Value} (hw : ∀ d ∈ tables_1, d.before a0 Z = true) : (Jvm.Cond.instanceMethod ({ cls := "java/util/ArrayList", name := "grow", desc := "(I)[Ljava/lang/Object;" } : Jvm.MethodName)).before a0 Z = true := hw _ (List.mem_of_getElem? (i := 67) rfl)
theorem own_w68 {Z : State} {a0 : Array Value} (hw : ∀ d ∈ tables_1, d.before a0 Z = true) : (Jvm.Cond.privateMethod ({ cls := "java/util/ArrayList", name := "grow", desc := "(I)[Ljava/lang/Object;" } : Jvm.MethodName)).before a0 Z = true := hw _ (List.mem_of_getElem? (i := 68) rfl)
theorem own_w69 {Z : State} {a0 : Array Value} (hw : ∀ d ∈ tables_1, d.before a0 Z = true) : (Jvm.Cond.selects "java/util/ArrayList" ({ cls := "java/util/ArrayList", name := "grow", desc := "(I)[Ljava/lang/Object;" } : Jvm.MethodName) ({ cls := "java/util/ArrayList", name := "grow", desc := "(I)[Ljava/lang/Object;" } : Jvm.MethodName)).before a0 Z = true := hw _ (List.mem_of_getElem? (i := 69) rfl)
theorem own_w70 {Z : State} {a0 : Array Value} (hw : ∀ d ∈ tables_1, d.before a0 Z = true) : (Jvm.Cond.code ({ cls := "java/util/ArrayList", name := "grow", desc := "(I)[Ljava/lang/Object;" } : Jvm.MethodName) jdk_38_method_6_code (4 : Nat) (Option.some (Jvm.ClassFile.FieldType.array (Jvm.ClassFile.FieldType.object "java/lang/Object")))).before a0 Z = true := hw _ (List.mem_of_getElem? (i := 70) rfl)
theorem own_w71 {Z : State} {a0 : Array Value} (hw : ∀ d ∈ tables_1, d.before a0 Z = true) : (Jvm.Cond.methodLink "java/util/ArrayList" (79 : Nat) ({ cls := "java/lang/Math", name := "max", desc := "(II)I" } : Jvm.MethodName)).before a0 Z = true := hw _ (List.mem_of_getElem? (i := 71) rfl)
theorem own_w72 {Z : State} {a0 : Array Value} (hw : ∀ d ∈ tables_1, d.before a0 Z = true) : (Jvm.Cond.classLink "java/util/ArrayList" (7 : Nat) "java/lang/Object").before a0 Z = true := hw _ (List.mem_of_getElem? (i := 72) rfl)
theorem own_w73 {Z : State} {a0 : Array Value} (hw : ∀ d ∈ tables_1, d.before a0 Z = true) : (Jvm.Cond.arrayOver (Jvm.ClassFile.FieldType.object "java/lang/Object")).before a0 Z = true := hw _ (List.mem_of_getElem? (i := 73) rfl)
theorem own_w74 {Z : State} {a0 : Array Value} (hw : ∀ d ∈ tables_1, d.before a0 Z = true) : (Jvm.Cond.castable "com/example/bidwright/bidwright/market/Money" "java/lang/Object").before a0 Z = true := hw _ (List.mem_of_getElem? (i := 74) rfl)
theorem own_w75 {Z : State} {a0 : Array Value} (hw : ∀ d ∈ tables_1, d.before a0 Z = true) : (Jvm.Cond.classLink "com/example/bidwright/bidwright/allocation/SupplyMostPinLaw" (33 : Nat) "com/example/bidwright/bidwright/allocation/Supply").before a0 Z = true := hw _ (List.mem_of_getElem? (i := 75) rfl)
theorem own_w76 {Z : State} {a0 : Array Value} (hw : ∀ d ∈ tables_1, d.before a0 Z = true) : (Jvm.Cond.instantiable "com/example/bidwright/bidwright/allocation/Supply" (3 : Nat)).before a0 Z = true := hw _ (List.mem_of_getElem? (i := 76) rfl)
theorem own_w77 {Z : State} {a0 : Array Value} (hw : ∀ d ∈ tables_1, d.before a0 Z = true) : (Jvm.Cond.initialized "com/example/bidwright/bidwright/allocation/Supply").before a0 Z = true := hw _ (List.mem_of_getElem? (i := 77) rfl)
theorem own_w78 {Z : State} {a0 : Array Value} (hw : ∀ d ∈ tables_1, d.before a0 Z = true) : (Jvm.Cond.methodLink "com/example/bidwright/bidwright/allocation/SupplyMostPinLaw" (35 : Nat) ({ cls := "com/example/bidwright/bidwright/allocation/Supply", name := "<init>", desc := "(ILjava/util/List;Ljava/util/List;)V" } : Jvm.MethodName)).before a0 Z = true := hw _ (List.mem_of_getElem? (i := 78) rfl)
theorem own_w79 {Z : State} {a0 : Array Value} (hw : ∀ d ∈ tables_1, d.before a0 Z = true) : (Jvm.Cond.instanceMethod ({ cls := "com/example/bidwright/bidwright/allocation/Supply", name := "<init>", desc := "(ILjava/util/List;Ljava/util/List;)V" } : Jvm.MethodName)).before a0 Z = true := hw _ (List.mem_of_getElem? (i := 79) rfl)
theorem own_w80 {Z : State} {a0 : Array Value} (hw : ∀ d ∈ tables_1, d.before a0 Z = true) : (Jvm.Cond.code ({ cls := "com/example/bidwright/bidwright/allocation/Supply", name := "<init>", desc := "(ILjava/util/List;Ljava/util/List;)V" } : Jvm.MethodName) prog_52_method_1_code (4 : Nat) (Option.none : Option Jvm.ClassFile.FieldType)).before a0 Z = true := hw _ (List.mem_of_getElem? (i := 80) rfl)
theorem own_w81 {Z : State} {a0 : Array Value} (hw : ∀ d ∈ tables_1, d.before a0 Z = true) : (Jvm.Cond.methodLink "com/example/bidwright/bidwright/allocation/Supply" (1 : Nat) ({ cls := "java/lang/Object", name := "<init>", desc := "()V" } : Jvm.MethodName)).before a0 Z = true := hw _ (List.mem_of_getElem? (i := 81) rfl)
theorem own_w82 {Z : State} {a0 : Array Value} (hw : ∀ d ∈ tables_1, d.before a0 Z = true) : (Jvm.Cond.fieldLink "com/example/bidwright/bidwright/allocation/Supply" (7 : Nat) "com/example/bidwright/bidwright/allocation/Supply" "held" "I").before a0 Z = true := hw _ (List.mem_of_getElem? (i := 82) rfl)
theorem own_w83 {Z : State} {a0 : Array Value} (hw : ∀ d ∈ tables_1, d.before a0 Z = true) : (Jvm.Cond.laysFinal "com/example/bidwright/bidwright/allocation/Supply" "com/example/bidwright/bidwright/allocation/Supply" "held" "I").before a0 Z = true := hw _ (List.mem_of_getElem? (i := 83) rfl)
theorem own_w84 {Z : State} {a0 : Array Value} (hw : ∀ d ∈ tables_1, d.before a0 Z = true) : (Jvm.Cond.methodLink "com/example/bidwright/bidwright/allocation/Supply" (13 : Nat) ({ cls := "com/example/bidwright/bidwright/allocation/Supply", name := "runningTotals", desc := "(Ljava/util/List;)[J" } : Jvm.MethodName)).before a0 Z = true := hw _ (List.mem_of_getElem? (i := 84) rfl)
theorem own_w85 {Z : State} {a0 : Array Value} (hw : ∀ d ∈ tables_1, d.before a0 Z = true) : (Jvm.Cond.static ({ cls := "com/example/bidwright/bidwright/allocation/Supply", name := "runningTotals", desc := "(Ljava/util/List;)[J" } : Jvm.MethodName)).before a0 Z = true := hw _ (List.mem_of_getElem? (i := 85) rfl)
theorem own_w86 {Z : State} {a0 : Array Value} (hw : ∀ d ∈ tables_1, d.before a0 Z = true) : (Jvm.Cond.code ({ cls := "com/example/bidwright/bidwright/allocation/Supply", name := "runningTotals", desc := "(Ljava/util/List;)[J" } : Jvm.MethodName) prog_52_method_4_code (3 : Nat) (Option.some (Jvm.ClassFile.FieldType.array Jvm.ClassFile.FieldType.long))).before a0 Z = true := hw _ (List.mem_of_getElem? (i := 86) rfl)
theorem own_w87 {Z : State} {a0 : Array Value} (hw : ∀ d ∈ tables_1, d.before a0 Z = true) : (Jvm.Cond.methodLink "com/example/bidwright/bidwright/allocation/Supply" (61 : Nat) ({ cls := "java/util/List", name := "size", desc := "()I" } : Jvm.MethodName)).before a0 Z = true := hw _ (List.mem_of_getElem? (i := 87) rfl)
theorem own_w88 {Z : State} {a0 : Array Value} (hw : ∀ d ∈ tables_1, d.before a0 Z = true) : (Jvm.Cond.declares ({ cls := "java/util/List", name := "size", desc := "()I" } : Jvm.MethodName)).before a0 Z = true := hw _ (List.mem_of_getElem? (i := 88) rfl)
theorem own_w89 {Z : State} {a0 : Array Value} (hw : ∀ d ∈ tables_1, d.before a0 Z = true) : (Jvm.Cond.interfaceMethod "java/util/List" "java/util/List" "size" "()I").before a0 Z = true := hw _ (List.mem_of_getElem? (i := 89) rfl)
theorem own_w90 {Z : State} {a0 : Array Value} (hw : ∀ d ∈ tables_1, d.before a0 Z = true) : (Jvm.Cond.selects "java/util/ArrayList" ({ cls := "java/util/List", name := "size", desc := "()I" } : Jvm.MethodName) ({ cls := "java/util/ArrayList", name := "size", desc := "()I" } : Jvm.MethodName)).before a0 Z = true := hw _ (List.mem_of_getElem? (i := 90) rfl)
theorem own_w91 {Z : State} {a0 : Array Value} (hw : ∀ d ∈ tables_1, d.before a0 Z = true) : (Jvm.Cond.instanceMethod ({ cls := "java/util/ArrayList", name := "size", desc := "()I" } : Jvm.MethodName)).before a0 Z = true := hw _ (List.mem_of_getElem? (i := 91) rfl)
theorem own_w92 {Z : State} {a0 : Array Value} (hw : ∀ d ∈ tables_1, d.before a0 Z = true) : (Jvm.Cond.publicMethod ({ cls := "java/util/ArrayList", name := "size", desc := "()I" } : Jvm.MethodName)).before a0 Z = true := hw _ (List.mem_of_getElem? (i := 92) rfl)
theorem own_w93 {Z : State} {a0 : Array Value} (hw : ∀ d ∈ tables_1, d.before a0 Z = true) : (Jvm.Cond.unhidden "java/util/ArrayList" "size" "()I").before a0 Z = true := hw _ (List.mem_of_getElem? (i := 93) rfl)
theorem own_w94 {Z : State} {a0 : Array Value} (hw : ∀ d ∈ tables_1, d.before a0 Z = true) : (Jvm.Cond.castable "java/util/ArrayList" "java/util/List").before a0 Z = true := hw _ (List.mem_of_getElem? (i := 94) rfl)
theorem own_w95 {Z : State} {a0 : Array Value} (hw : ∀ d ∈ tables_1, d.before a0 Z = true) : (Jvm.Cond.code ({ cls := "java/util/ArrayList", name := "size", desc := "()I" } : Jvm.MethodName) jdk_38_method_8_code (1 : Nat) (Option.some Jvm.ClassFile.FieldType.int)).before a0 Z = true := hw _ (List.mem_of_getElem? (i := 95) rfl)
theorem own_w96 {Z : State} {a0 : Array Value} (hw : ∀ d ∈ tables_1, d.before a0 Z = true) : (Jvm.Cond.arrayClass Jvm.ClassFile.FieldType.long).before a0 Z = true := hw _ (List.mem_of_getElem? (i := 96) rfl)
theorem own_w97 {Z : State} {a0 : Array Value} (hw : ∀ d ∈ tables_1, d.before a0 Z = true) : (Jvm.Cond.methodLink "com/example/bidwright/bidwright/allocation/Supply" (96 : Nat) ({ cls := "java/util/List", name := "get", desc := "(I)Ljava/lang/Object;" } : Jvm.MethodName)).before a0 Z = true := hw _ (List.mem_of_getElem? (i := 97) rfl)
theorem own_w98 {Z : State} {a0 : Array Value} (hw : ∀ d ∈ tables_1, d.before a0 Z = true) : (Jvm.Cond.declares ({ cls := "java/util/List", name := "get", desc := "(I)Ljava/lang/Object;" } : Jvm.MethodName)).before a0 Z = true := hw _ (List.mem_of_getElem? (i := 98) rfl)
theorem own_w99 {Z : State} {a0 : Array Value} (hw : ∀ d ∈ tables_1, d.before a0 Z = true) : (Jvm.Cond.interfaceMethod "java/util/List" "java/util/List" "get" "(I)Ljava/lang/Object;").before a0 Z = true := hw _ (List.mem_of_getElem? (i := 99) rfl)
theorem own_w100 {Z : State} {a0 : Array Value} (hw : ∀ d ∈ tables_1, d.before a0 Z = true) : (Jvm.Cond.selects "java/util/ArrayList" ({ cls := "java/util/List", name := "get", desc := "(I)Ljava/lang/Object;" } : Jvm.MethodName) ({ cls := "java/util/ArrayList", name := "get", desc := "(I)Ljava/lang/Object;" } : Jvm.MethodName)).before a0 Z = true := hw _ (List.mem_of_getElem? (i := 100) rfl)
theorem own_w101 {Z : State} {a0 : Array Value} (hw : ∀ d ∈ tables_1, d.before a0 Z = true) : (Jvm.Cond.instanceMethod ({ cls := "java/util/ArrayList", name := "get", desc := "(I)Ljava/lang/Object;" } : Jvm.MethodName)).before a0 Z = true := hw _ (List.mem_of_getElem? (i := 101) rfl)
theorem own_w102 {Z : State} {a0 : Array Value} (hw : ∀ d ∈ tables_1, d.before a0 Z = true) : (Jvm.Cond.publicMethod ({ cls := "java/util/ArrayList", name := "get", desc := "(I)Ljava/lang/Object;" } : Jvm.MethodName)).before a0 Z = true := hw _ (List.mem_of_getElem? (i := 102) rfl)
theorem own_w103 {Z : State} {a0 : Array Value} (hw : ∀ d ∈ tables_1, d.before a0 Z = true) : (Jvm.Cond.unhidden "java/util/ArrayList" "get" "(I)Ljava/lang/Object;").before a0 Z = true := hw _ (List.mem_of_getElem? (i := 103) rfl)
theorem own_w104 {Z : State} {a0 : Array Value} (hw : ∀ d ∈ tables_1, d.before a0 Z = true) : (Jvm.Cond.code ({ cls := "java/util/ArrayList", name := "get", desc := "(I)Ljava/lang/Object;" } : Jvm.MethodName) jdk_38_method_20_code (2 : Nat) (Option.some (Jvm.ClassFile.FieldType.object "java/lang/Object"))).before a0 Z = true := hw _ (List.mem_of_getElem? (i := 104) rfl)
theorem own_w105 {Z : State} {a0 : Array Value} (hw : ∀ d ∈ tables_1, d.before a0 Z = true) : (Jvm.Cond.methodLink "java/util/ArrayList" (118 : Nat) ({ cls := "java/util/Objects", name := "checkIndex", desc := "(II)I" } : Jvm.MethodName)).before a0 Z = true := hw _ (List.mem_of_getElem? (i := 105) rfl)
theorem own_w106 {Z : State} {a0 : Array Value} (hw : ∀ d ∈ tables_1, d.before a0 Z = true) : (Jvm.Cond.static ({ cls := "java/util/Objects", name := "checkIndex", desc := "(II)I" } : Jvm.MethodName)).before a0 Z = true := hw _ (List.mem_of_getElem? (i := 106) rfl)
theorem own_w107 {Z : State} {a0 : Array Value} (hw : ∀ d ∈ tables_1, d.before a0 Z = true) : (Jvm.Cond.initialized "java/util/Objects").before a0 Z = true := hw _ (List.mem_of_getElem? (i := 107) rfl)
theorem own_w108 {Z : State} {a0 : Array Value} (hw : ∀ d ∈ tables_1, d.before a0 Z = true) : (Jvm.Cond.code ({ cls := "java/util/Objects", name := "checkIndex", desc := "(II)I" } : Jvm.MethodName) jdk_31_method_17_code (2 : Nat) (Option.some Jvm.ClassFile.FieldType.int)).before a0 Z = true := hw _ (List.mem_of_getElem? (i := 108) rfl)
theorem own_w109 {Z : State} {a0 : Array Value} (hw : ∀ d ∈ tables_1, d.before a0 Z = true) : (Jvm.Cond.methodLink "java/util/Objects" (105 : Nat) ({ cls := "jdk/internal/util/Preconditions", name := "checkIndex", desc := "(IILjava/util/function/BiFunction;)I" } : Jvm.MethodName)).before a0 Z = true := hw _ (List.mem_of_getElem? (i := 109) rfl)
theorem own_w110 {Z : State} {a0 : Array Value} (hw : ∀ d ∈ tables_1, d.before a0 Z = true) : (Jvm.Cond.static ({ cls := "jdk/internal/util/Preconditions", name := "checkIndex", desc := "(IILjava/util/function/BiFunction;)I" } : Jvm.MethodName)).before a0 Z = true := hw _ (List.mem_of_getElem? (i := 110) rfl)
theorem own_w111 {Z : State} {a0 : Array Value} (hw : ∀ d ∈ tables_1, d.before a0 Z = true) : (Jvm.Cond.initialized "jdk/internal/util/Preconditions").before a0 Z = true := hw _ (List.mem_of_getElem? (i := 111) rfl)
theorem own_w112 {Z : State} {a0 : Array Value} (hw : ∀ d ∈ tables_1, d.before a0 Z = true) : (Jvm.Cond.code ({ cls := "jdk/internal/util/Preconditions", name := "checkIndex", desc := "(IILjava/util/function/BiFunction;)I" } : Jvm.MethodName) jdk_41_method_11_code (3 : Nat) (Option.some Jvm.ClassFile.FieldType.int)).before a0 Z = true := hw _ (List.mem_of_getElem? (i := 112) rfl)
theorem own_w113 {Z : State} {a0 : Array Value} (hw : ∀ d ∈ tables_1, d.before a0 Z = true) : (Jvm.Cond.methodLink "java/util/ArrayList" (123 : Nat) ({ cls := "java/util/ArrayList", name := "elementData", desc := "(I)Ljava/lang/Object;" } : Jvm.MethodName)).before a0 Z = true := hw _ (List.mem_of_getElem? (i := 113) rfl)
theorem own_w114 {Z : State} {a0 : Array Value} (hw : ∀ d ∈ tables_1, d.before a0 Z = true) : (Jvm.Cond.declares ({ cls := "java/util/ArrayList", name := "elementData", desc := "(I)Ljava/lang/Object;" } : Jvm.MethodName)).before a0 Z = true := hw _ (List.mem_of_getElem? (i := 114) rfl)
theorem own_w115 {Z : State} {a0 : Array Value} (hw : ∀ d ∈ tables_1, d.before a0 Z = true) : (Jvm.Cond.instanceMethod ({ cls := "java/util/ArrayList", name := "elementData", desc := "(I)Ljava/lang/Object;" } : Jvm.MethodName)).before a0 Z = true := hw _ (List.mem_of_getElem? (i := 115) rfl)
theorem own_w116 {Z : State} {a0 : Array Value} (hw : ∀ d ∈ tables_1, d.before a0 Z = true) : (Jvm.Cond.selects "java/util/ArrayList" ({ cls := "java/util/ArrayList", name := "elementData", desc := "(I)Ljava/lang/Object;" } : Jvm.MethodName) ({ cls := "java/util/ArrayList", name := "elementData", desc := "(I)Ljava/lang/Object;" } : Jvm.MethodName)).before a0 Z = true := hw _ (List.mem_of_getElem? (i := 116) rfl)
theorem own_w117 {Z : State} {a0 : Array Value} (hw : ∀ d ∈ tables_1, d.before a0 Z = true) : (Jvm.Cond.code ({ cls := "java/util/ArrayList", name := "elementData", desc := "(I)Ljava/lang/Object;" } : Jvm.MethodName) jdk_38_method_18_code (2 : Nat) (Option.some (Jvm.ClassFile.FieldType.object "java/lang/Object"))).before a0 Z = true := hw _ (List.mem_of_getElem? (i := 117) rfl)
theorem own_w118 {Z : State} {a0 : Array Value} (hw : ∀ d ∈ tables_1, d.before a0 Z = true) : (Jvm.Cond.classLink "com/example/bidwright/bidwright/allocation/Supply" (100 : Nat) "com/example/bidwright/bidwright/market/Money").before a0 Z = true := hw _ (List.mem_of_getElem? (i := 118) rfl)
theorem own_w119 {Z : State} {a0 : Array Value} (hw : ∀ d ∈ tables_1, d.before a0 Z = true) : (Jvm.Cond.castable "com/example/bidwright/bidwright/market/Money" "com/example/bidwright/bidwright/market/Money").before a0 Z = true := hw _ (List.mem_of_getElem? (i := 119) rfl)
theorem own_w120 {Z : State} {a0 : Array Value} (hw : ∀ d ∈ tables_1, d.before a0 Z = true) : (Jvm.Cond.methodLink "com/example/bidwright/bidwright/allocation/Supply" (102 : Nat) ({ cls := "com/example/bidwright/bidwright/market/Money", name := "toCents", desc := "()J" } : Jvm.MethodName)).before a0 Z = true := hw _ (List.mem_of_getElem? (i := 120) rfl)
theorem own_w121 {Z : State} {a0 : Array Value} (hw : ∀ d ∈ tables_1, d.before a0 Z = true) : (Jvm.Cond.declares ({ cls := "com/example/bidwright/bidwright/market/Money", name := "toCents", desc := "()J" } : Jvm.MethodName)).before a0 Z = true := hw _ (List.mem_of_getElem? (i := 121) rfl)
theorem own_w122 {Z : State} {a0 : Array Value} (hw : ∀ d ∈ tables_1, d.before a0 Z = true) : (Jvm.Cond.instanceMethod ({ cls := "com/example/bidwright/bidwright/market/Money", name := "toCents", desc := "()J" } : Jvm.MethodName)).before a0 Z = true := hw _ (List.mem_of_getElem? (i := 122) rfl)
theorem own_w123 {Z : State} {a0 : Array Value} (hw : ∀ d ∈ tables_1, d.before a0 Z = true) : (Jvm.Cond.selects "com/example/bidwright/bidwright/market/Money" ({ cls := "com/example/bidwright/bidwright/market/Money", name := "toCents", desc := "()J" } : Jvm.MethodName) ({ cls := "com/example/bidwright/bidwright/market/Money", name := "toCents", desc := "()J" } : Jvm.MethodName)).before a0 Z = true := hw _ (List.mem_of_getElem? (i := 123) rfl)
theorem own_w124 {Z : State} {a0 : Array Value} (hw : ∀ d ∈ tables_1, d.before a0 Z = true) : (Jvm.Cond.code ({ cls := "com/example/bidwright/bidwright/market/Money", name := "toCents", desc := "()J" } : Jvm.MethodName) prog_111_method_4_code (1 : Nat) (Option.some Jvm.ClassFile.FieldType.long)).before a0 Z = true := hw _ (List.mem_of_getElem? (i := 124) rfl)
theorem own_w125 {Z : State} {a0 : Array Value} (hw : ∀ d ∈ tables_1, d.before a0 Z = true) : (Jvm.Cond.methodLink "com/example/bidwright/bidwright/allocation/Supply" (106 : Nat) ({ cls := "java/lang/Math", name := "addExact", desc := "(JJ)J" } : Jvm.MethodName)).before a0 Z = true := hw _ (List.mem_of_getElem? (i := 125) rfl)
theorem own_w126 {Z : State} {a0 : Array Value} (hw : ∀ d ∈ tables_1, d.before a0 Z = true) : (Jvm.Cond.static ({ cls := "java/lang/Math", name := "addExact", desc := "(JJ)J" } : Jvm.MethodName)).before a0 Z = true := hw _ (List.mem_of_getElem? (i := 126) rfl)
theorem own_w127 {Z : State} {a0 : Array Value} (hw : ∀ d ∈ tables_1, d.before a0 Z = true) : (Jvm.Cond.code ({ cls := "java/lang/Math", name := "addExact", desc := "(JJ)J" } : Jvm.MethodName) jdk_29_method_25_code (6 : Nat) (Option.some Jvm.ClassFile.FieldType.long)).before a0 Z = true := hw _ (List.mem_of_getElem? (i := 127) rfl)
theorem own_w128 {Z : State} {a0 : Array Value} (hw : ∀ d ∈ tables_1, d.before a0 Z = true) : (Jvm.Cond.fieldLink "com/example/bidwright/bidwright/allocation/Supply" (17 : Nat) "com/example/bidwright/bidwright/allocation/Supply" "costs" "[J").before a0 Z = true := hw _ (List.mem_of_getElem? (i := 128) rfl)
theorem own_w129 {Z : State} {a0 : Array Value} (hw : ∀ d ∈ tables_1, d.before a0 Z = true) : (Jvm.Cond.laysFinal "com/example/bidwright/bidwright/allocation/Supply" "com/example/bidwright/bidwright/allocation/Supply" "costs" "[J").before a0 Z = true := hw _ (List.mem_of_getElem? (i := 129) rfl)
theorem own_w130 {Z : State} {a0 : Array Value} (hw : ∀ d ∈ tables_1, d.before a0 Z = true) : (Jvm.Cond.fieldLink "com/example/bidwright/bidwright/allocation/Supply" (21 : Nat) "com/example/bidwright/bidwright/allocation/Supply" "revenues" "[J").before a0 Z = true := hw _ (List.mem_of_getElem? (i := 130) rfl)
theorem own_w131 {Z : State} {a0 : Array Value} (hw : ∀ d ∈ tables_1, d.before a0 Z = true) : (Jvm.Cond.laysFinal "com/example/bidwright/bidwright/allocation/Supply" "com/example/bidwright/bidwright/allocation/Supply" "revenues" "[J").before a0 Z = true := hw _ (List.mem_of_getElem? (i := 131) rfl)
theorem own_w132 {Z : State} {a0 : Array Value} (hw : ∀ d ∈ tables_1, d.before a0 Z = true) : (Jvm.Cond.methodLink "com/example/bidwright/bidwright/allocation/SupplyMostPinLaw" (38 : Nat) ({ cls := "com/example/bidwright/bidwright/allocation/Supply", name := "most", desc := "()J" } : Jvm.MethodName)).before a0 Z = true := hw _ (List.mem_of_getElem? (i := 132) rfl)
theorem own_w133 {Z : State} {a0 : Array Value} (hw : ∀ d ∈ tables_1, d.before a0 Z = true) : (Jvm.Cond.declares ({ cls := "com/example/bidwright/bidwright/allocation/Supply", name := "most", desc := "()J" } : Jvm.MethodName)).before a0 Z = true := hw _ (List.mem_of_getElem? (i := 133) rfl)
theorem own_w134 {Z : State} {a0 : Array Value} (hw : ∀ d ∈ tables_1, d.before a0 Z = true) : (Jvm.Cond.instanceMethod ({ cls := "com/example/bidwright/bidwright/allocation/Supply", name := "most", desc := "()J" } : Jvm.MethodName)).before a0 Z = true := hw _ (List.mem_of_getElem? (i := 134) rfl)
theorem own_w135 {Z : State} {a0 : Array Value} (hw : ∀ d ∈ tables_1, d.before a0 Z = true) : (Jvm.Cond.selects "com/example/bidwright/bidwright/allocation/Supply" ({ cls := "com/example/bidwright/bidwright/allocation/Supply", name := "most", desc := "()J" } : Jvm.MethodName) ({ cls := "com/example/bidwright/bidwright/allocation/Supply", name := "most", desc := "()J" } : Jvm.MethodName)).before a0 Z = true := hw _ (List.mem_of_getElem? (i := 135) rfl)
theorem own_w136 {Z : State} {a0 : Array Value} (hw : ∀ d ∈ tables_1, d.before a0 Z = true) : (Jvm.Cond.code ({ cls := "com/example/bidwright/bidwright/allocation/Supply", name := "most", desc := "()J" } : Jvm.MethodName) prog_52_method_5_code (1 : Nat) (Option.some Jvm.ClassFile.FieldType.long)).before a0 Z = true := hw _ (List.mem_of_getElem? (i := 136) rfl)
theorem own_pd0 : parseMethodDescriptor "(II)I" = some ⟨[.int, .int], some .int⟩ := by decide +kernel
theorem own_pd1 : parseMethodDescriptor "()V" = some ⟨[], none⟩ := by decide +kernel
theorem own_pn0 : plainName "java/util/AbstractCollection" = true := by first | (simp [plainName, overriddenIn]; done) | decide +kernel
theorem own_pn1 : plainName "java/util/AbstractList" = true := by first | (simp [plainName, overriddenIn]; done) | decide +kernel
theorem own_pn2 : plainName "java/util/ArrayList" = true := by first | (simp [plainName, overriddenIn]; done) | decide +kernel
theorem own_pd2 : parseMethodDescriptor "(I)[Ljava/lang/Object;" = some ⟨[.int], some (.array (.object "java/lang/Object"))⟩ := by decide +kernel
theorem own_pd3 : parseMethodDescriptor "()[Ljava/lang/Object;" = some ⟨[], some (.array (.object "java/lang/Object"))⟩ := by decide +kernel
theorem own_pd4 : parseMethodDescriptor "(Ljava/lang/Object;[Ljava/lang/Object;I)V" = some ⟨[(.object "java/lang/Object"), (.array (.object "java/lang/Object")), .int], none⟩ := by decide +kernel
theorem own_pd5 : parseMethodDescriptor "(Ljava/lang/Object;)Z" = some ⟨[(.object "java/lang/Object")], some .boolean⟩ := by decide +kernel
theorem own_pd6 : parseMethodDescriptor "(J)V" = some ⟨[.long], none⟩ := by decide +kernel
theorem own_pn3 : plainName "com/example/bidwright/bidwright/market/Money" = true := by first | (simp [plainName, overriddenIn]; done) | decide +kernel
theorem own_pd7 : parseMethodDescriptor "(J)Lcom/example/bidwright/bidwright/market/Money;" = some ⟨[.long], some (.object "com/example/bidwright/bidwright/market/Money")⟩ := by decide +kernel
theorem own_pd8 : parseMethodDescriptor "()I" = some ⟨[], some .int⟩ := by decide +kernel
theorem own_pd9 : parseMethodDescriptor "(I)Ljava/lang/Object;" = some ⟨[.int], some (.object "java/lang/Object")⟩ := by decide +kernel
theorem own_pd10 : parseMethodDescriptor "(IILjava/util/function/BiFunction;)I" = some ⟨[.int, .int, (.object "java/util/function/BiFunction")], some .int⟩ := by decide +kernel
theorem own_pn4 : plainName "jdk/internal/util/Preconditions" = true := by first | (simp [plainName, overriddenIn]; done) | decide +kernel
theorem own_pn5 : plainName "java/util/Objects" = true := by first | (simp [plainName, overriddenIn]; done) | decide +kernel
theorem own_pd11 : parseMethodDescriptor "()J" = some ⟨[], some .long⟩ := by decide +kernel
theorem own_pd12 : parseMethodDescriptor "(JJ)J" = some ⟨[.long, .long], some .long⟩ := by decide +kernel
theorem own_pd13 : parseMethodDescriptor "(Ljava/util/List;)[J" = some ⟨[(.object "java/util/List")], some (.array .long)⟩ := by decide +kernel
theorem own_pn6 : plainName "com/example/bidwright/bidwright/allocation/Supply" = true := by first | (simp [plainName, overriddenIn]; done) | decide +kernel
theorem own_pd14 : parseMethodDescriptor "(ILjava/util/List;Ljava/util/List;)V" = some ⟨[.int, (.object "java/util/List"), (.object "java/util/List")], none⟩ := by decide +kernel
theorem own_pd15 : parseMethodDescriptor "(IIIJJ)Z" = some ⟨[.int, .int, .int, .long, .long], some .boolean⟩ := by decide +kernel
theorem own_pn7 : plainName "com/example/bidwright/bidwright/allocation/SupplyMostPinLaw" = true := by first | (simp [plainName, overriddenIn]; done) | decide +kernel
theorem d1_0 : decode jdk_29_method_65_code 0 = .ok (.iload_n 0, 1) := by decide +kernel
theorem d1_1 : decode jdk_29_method_65_code 1 = .ok (.iload_n 1, 1) := by decide +kernel
theorem d1_2 : decode jdk_29_method_65_code 2 = .ok (.if_icmp .lt 7, 3) := by decide +kernel
theorem d1_5 : decode jdk_29_method_65_code 5 = .ok (.iload_n 0, 1) := by decide +kernel
theorem d1_6 : decode jdk_29_method_65_code 6 = .ok (.goto 4, 3) := by decide +kernel
theorem d1_9 : decode jdk_29_method_65_code 9 = .ok (.iload_n 1, 1) := by decide +kernel
theorem d1_10 : decode jdk_29_method_65_code 10 = .ok (.ireturn, 1) := by decide +kernel
/-- what the body returns -/
def own_F1 (p0 : Int32) (p1 : Int32) : Int32 :=
  (if p0 < p1 then p1 else p0)
theorem own_ef1 (m : MethodId) (p0 : Int32) (p1 : Int32) : entryFrame m #[(.int p0), (.int p1)] 2 = mkF m 0 #[.val (.int p0), .val (.int p1)] [] := by first | (simp [entryFrame, mkF, argsToLocals, Value.category]; done) | rfl
set_option maxRecDepth 65536 in
set_option maxHeartbeats 40000000 in
theorem own_c1 (l : Launch) (Z : State) (a0 : Array Value) (hw : ∀ d ∈ tables_1, d.before a0 Z = true) (h0 : Heap) (n0 : Nat) (Z0 : n0 ≤ h0.size) (p0 : Int32) (p1 : Int32) :
    own_M l (⟨"java/lang/Math", "max", "(II)I"⟩ : MethodName) jdk_29_method_65_code 2 (some .int) [] ({ frames := 0, cells := 0, slots := 0, locals := 0 } : Room) Z #[(.int p0), (.int p1)] h0 (own_Q n0 h0 [] (own_P (.int (own_F1 p0 p1)) h0)) := by
  refine own_body (Jvm.Free.JP.mathPlain rfl (by decide +kernel)) ?_
  intro p e s m below meth c T0 X0 hx hby hml hown hnm hret hlk hZ
  refine own_cast (own_ef1 m p0 p1) ?_
  refine own_st (f' := (mkF m 1 #[.val (.int p0), .val (.int p1)] [(.int p0)])) (fun t k => XS.iloadN X0.her hx rfl (hb hby d1_0) rfl k) ?_
  refine own_st (f' := (mkF m 2 #[.val (.int p0), .val (.int p1)] [(.int p1), (.int p0)])) (fun t k => XS.iloadN X0.her hx rfl (hb hby d1_1) rfl k) ?_
  by_cases hc1 : p0 < p1
  · refine own_st (f' := (mkF m 9 #[.val (.int p0), .val (.int p1)] [])) (fun t k => XS.icmpYes X0.her hx rfl (pc0 := 2) (pc' := 9) rfl (hb hby d1_2) rfl (tlt hc1).1 (by decide) (by decide) k) ?_
    refine own_st (f' := (mkF m 10 #[.val (.int p0), .val (.int p1)] [(.int p1)])) (fun t k => XS.iloadN X0.her hx rfl (hb hby d1_9) rfl k) ?_
    refine own_retI X0 hx hret hlk (hb hby d1_10) (by first | decide | omega) (by first | decide | omega) ?_
    exact ⟨congrArg (fun q => some (Value.int q)) (by unfold own_F1; rw [if_pos hc1]; first | done | exact rfl), rfl⟩
  · refine own_st (f' := (mkF m 5 #[.val (.int p0), .val (.int p1)] [])) (fun t k => XS.icmpNo X0.her hx rfl (hb hby d1_2) rfl (flt hc1).1 k) ?_
    refine own_st (f' := (mkF m 6 #[.val (.int p0), .val (.int p1)] [(.int p0)])) (fun t k => XS.iloadN X0.her hx rfl (hb hby d1_5) rfl k) ?_
    refine own_st (f' := (mkF m 10 #[.val (.int p0), .val (.int p1)] [(.int p0)])) (fun t k => XS.goto X0.her hx rfl (pc0 := 6) (pc' := 10) rfl (hb hby d1_6) (by decide) (by decide) k) ?_
    refine own_retI X0 hx hret hlk (hb hby d1_10) (by first | decide | omega) (by first | decide | omega) ?_
    exact ⟨congrArg (fun q => some (Value.int q)) (by unfold own_F1; rw [if_neg hc1]; first | done | exact rfl), rfl⟩
theorem d2_0 : decode jdk_29_method_69_code 0 = .ok (.iload_n 0, 1) := by decide +kernel
theorem d2_1 : decode jdk_29_method_69_code 1 = .ok (.iload_n 1, 1) := by decide +kernel
theorem d2_2 : decode jdk_29_method_69_code 2 = .ok (.if_icmp .gt 7, 3) := by decide +kernel
theorem d2_5 : decode jdk_29_method_69_code 5 = .ok (.iload_n 0, 1) := by decide +kernel
theorem d2_6 : decode jdk_29_method_69_code 6 = .ok (.goto 4, 3) := by decide +kernel
theorem d2_9 : decode jdk_29_method_69_code 9 = .ok (.iload_n 1, 1) := by decide +kernel
theorem d2_10 : decode jdk_29_method_69_code 10 = .ok (.ireturn, 1) := by decide +kernel
/-- what the body returns -/
def own_F2 (p0 : Int32) (p1 : Int32) : Int32 :=
  (if p1 < p0 then p1 else p0)
theorem own_ef2 (m : MethodId) (p0 : Int32) (p1 : Int32) : entryFrame m #[(.int p0), (.int p1)] 2 = mkF m 0 #[.val (.int p0), .val (.int p1)] [] := by first | (simp [entryFrame, mkF, argsToLocals, Value.category]; done) | rfl
set_option maxRecDepth 65536 in
set_option maxHeartbeats 40000000 in
theorem own_c2 (l : Launch) (Z : State) (a0 : Array Value) (hw : ∀ d ∈ tables_1, d.before a0 Z = true) (h0 : Heap) (n0 : Nat) (Z0 : n0 ≤ h0.size) (p0 : Int32) (p1 : Int32) :
    own_M l (⟨"java/lang/Math", "min", "(II)I"⟩ : MethodName) jdk_29_method_69_code 2 (some .int) [] ({ frames := 0, cells := 0, slots := 0, locals := 0 } : Room) Z #[(.int p0), (.int p1)] h0 (own_Q n0 h0 [] (own_P (.int (own_F2 p0 p1)) h0)) := by
  refine own_body (Jvm.Free.JP.mathPlain rfl (by decide +kernel)) ?_
  intro p e s m below meth c T0 X0 hx hby hml hown hnm hret hlk hZ
  refine own_cast (own_ef2 m p0 p1) ?_
  refine own_st (f' := (mkF m 1 #[.val (.int p0), .val (.int p1)] [(.int p0)])) (fun t k => XS.iloadN X0.her hx rfl (hb hby d2_0) rfl k) ?_
  refine own_st (f' := (mkF m 2 #[.val (.int p0), .val (.int p1)] [(.int p1), (.int p0)])) (fun t k => XS.iloadN X0.her hx rfl (hb hby d2_1) rfl k) ?_
  by_cases hc2 : p1 < p0
  · refine own_st (f' := (mkF m 9 #[.val (.int p0), .val (.int p1)] [])) (fun t k => XS.icmpYes X0.her hx rfl (pc0 := 2) (pc' := 9) rfl (hb hby d2_2) rfl (tlt hc2).2.2.1 (by decide) (by decide) k) ?_
    refine own_st (f' := (mkF m 10 #[.val (.int p0), .val (.int p1)] [(.int p1)])) (fun t k => XS.iloadN X0.her hx rfl (hb hby d2_9) rfl k) ?_
    refine own_retI X0 hx hret hlk (hb hby d2_10) (by first | decide | omega) (by first | decide | omega) ?_
    exact ⟨congrArg (fun q => some (Value.int q)) (by unfold own_F2; rw [if_pos hc2]; first | done | exact rfl), rfl⟩
  · refine own_st (f' := (mkF m 5 #[.val (.int p0), .val (.int p1)] [])) (fun t k => XS.icmpNo X0.her hx rfl (hb hby d2_2) rfl (flt hc2).2.2.1 k) ?_
    refine own_st (f' := (mkF m 6 #[.val (.int p0), .val (.int p1)] [(.int p0)])) (fun t k => XS.iloadN X0.her hx rfl (hb hby d2_5) rfl k) ?_
    refine own_st (f' := (mkF m 10 #[.val (.int p0), .val (.int p1)] [(.int p0)])) (fun t k => XS.goto X0.her hx rfl (pc0 := 6) (pc' := 10) rfl (hb hby d2_6) (by decide) (by decide) k) ?_
    refine own_retI X0 hx hret hlk (hb hby d2_10) (by first | decide | omega) (by first | decide | omega) ?_
    exact ⟨congrArg (fun q => some (Value.int q)) (by unfold own_F2; rw [if_neg hc2]; first | done | exact rfl), rfl⟩
theorem d8_0 : decode jdk_22_method_1_code 0 = .ok (.aload_n 0, 1) := by decide +kernel
theorem d8_1 : decode jdk_22_method_1_code 1 = .ok (.invokespecial 1, 3) := by decide +kernel
theorem d8_4 : decode jdk_22_method_1_code 4 = .ok (.return_, 1) := by decide +kernel
theorem own_ef8 (m : MethodId) (r0 : Addr) : entryFrame m #[(.ref r0)] 1 = mkF m 0 #[.val (.ref r0)] [] := by first | (simp [entryFrame, mkF, argsToLocals, Value.category]; done) | rfl
set_option maxRecDepth 65536 in
set_option maxHeartbeats 40000000 in
theorem own_c8 (l : Launch) (Z : State) (a0 : Array Value) (hw : ∀ d ∈ tables_1, d.before a0 Z = true) (h0 : Heap) (n0 : Nat) (Z0 : n0 ≤ h0.size) (r0 : Addr) :
    own_M l (⟨"java/util/AbstractCollection", "<init>", "()V"⟩ : MethodName) jdk_22_method_1_code 1 none [] ({ frames := 1, cells := 0, slots := 0, locals := 12 } : Room) Z #[(.ref r0)] h0 (own_Q n0 h0 [] (own_N h0)) := by
  refine own_body (plainFor_of_name own_pn0) ?_
  intro p e s m below meth c T0 X0 hx hby hml hown hnm hret hlk hZ
  refine own_cast (own_ef8 m r0) ?_
  refine own_st (f' := (mkF m 1 #[.val (.ref r0)] [(.ref r0)])) (fun t k => XS.aloadN X0.her hx rfl (hb hby d8_0) rfl rfl k) ?_
  refine own_initO (W := 0) X0 hx hZ hown (own_w41 hw) (own_w19 hw) (own_w20 hw) (by decide) (by decide) (by rw [hml]; rfl) (Nat.le_of_eq rfl) (hb hby d8_1) ?_
  intro T3 X3
  refine own_ret0 X3 hx hret hlk (hb hby d8_4) (by first | decide | omega) (by first | decide | omega) ?_
  exact ⟨rfl, rfl⟩
theorem d7_0 : decode jdk_39_method_1_code 0 = .ok (.aload_n 0, 1) := by decide +kernel
theorem d7_1 : decode jdk_39_method_1_code 1 = .ok (.invokespecial 1, 3) := by decide +kernel
theorem d7_4 : decode jdk_39_method_1_code 4 = .ok (.aload_n 0, 1) := by decide +kernel
theorem d7_5 : decode jdk_39_method_1_code 5 = .ok (.iconst 0, 1) := by decide +kernel
theorem d7_6 : decode jdk_39_method_1_code 6 = .ok (.putfield 7, 3) := by decide +kernel
theorem d7_9 : decode jdk_39_method_1_code 9 = .ok (.return_, 1) := by decide +kernel
theorem own_ef7 (m : MethodId) (r0 : Addr) : entryFrame m #[(.ref r0)] 1 = mkF m 0 #[.val (.ref r0)] [] := by first | (simp [entryFrame, mkF, argsToLocals, Value.category]; done) | rfl
set_option maxRecDepth 65536 in
set_option maxHeartbeats 40000000 in
theorem own_c7 (l : Launch) (Z : State) (a0 : Array Value) (hw : ∀ d ∈ tables_1, d.before a0 Z = true) (h0 : Heap) (n0 : Nat) (Z0 : n0 ≤ h0.size) (r0 : Addr) (E0 : (Exa Z h0 r0 "java/util/ArrayList")) (F0s : (Fld Z h0 r0 "java/util/ArrayList" "size" "I" (.int (0 : Int32)))) (F0e : (Fld Z h0 r0 "java/util/ArrayList" "elementData" "[Ljava/lang/Object;" .null)) (F0m : (Fld Z h0 r0 "java/util/AbstractList" "modCount" "I" (.int (0 : Int32)))) (g0 : n0 ≤ r0) :
    own_M l (⟨"java/util/AbstractList", "<init>", "()V"⟩ : MethodName) jdk_39_method_1_code 1 none [] ({ frames := 2, cells := 0, slots := 0, locals := 24 } : Room) Z #[(.ref r0)] h0 (own_Q n0 h0 [r0] (fun v h => v = none ∧ (Exa Z h r0 "java/util/ArrayList") ∧ (Fld Z h r0 "java/util/ArrayList" "size" "I" (.int (0 : Int32))) ∧ (Fld Z h r0 "java/util/ArrayList" "elementData" "[Ljava/lang/Object;" .null) ∧ (Fld Z h r0 "java/util/AbstractList" "modCount" "I" (.int (0 : Int32))))) := by
  refine own_body (plainFor_of_name own_pn1) ?_
  intro p e s m below meth c T0 X0 hx hby hml hown hnm hret hlk hZ
  refine own_cast (own_ef7 m r0) ?_
  refine own_st (f' := (mkF m 1 #[.val (.ref r0)] [(.ref r0)])) (fun t k => XS.aloadN X0.her hx rfl (hb hby d7_0) rfl rfl k) ?_
  refine own_callCN (y := (⟨"java/util/AbstractCollection", "<init>", "()V"⟩ : MethodName)) (W := 0) [] X0 hx hZ hown rfl (own_w35 hw) (own_w36 hw) (own_w39 hw) (own_w40 hw) (by decide) (own_c8 l Z a0 hw h0 n0 Z0 r0) (by decide) (by decide) (by decide) (by decide) (by rw [hml]; rfl) own_pd1 rfl rfl (Nat.le_of_eq rfl) (hb hby d7_1) ?_
  intro T4 X4
  show own_G p e below _ T4 (mkF m 4 #[.val (.ref r0)] [])
  refine own_st (f' := (mkF m 5 #[.val (.ref r0)] [(.ref r0)])) (fun t k => XS.aloadN X4.her hx rfl (hb hby d7_4) rfl rfl k) ?_
  refine own_st (f' := (mkF m 6 #[.val (.ref r0)] [(.int (0 : Int32)), (.ref r0)])) (fun t k => XS.iconst X4.her hx rfl (hb hby d7_5) k) ?_
  refine own_putFV X4 hx hZ hown (own_w42 hw) Via.refl F0m E0 (Or.inl (own_w43 hw)) (own_w24 hw) (ty := .int) (by decide) rfl rfl (hb hby d7_6) g0 (Or.inl (List.mem_cons_self)) ?_
  intro T5 h5 X5 W5 F5 A5
  have F5_size := F0s.other W5 (Or.inr (slot_ne (Or.inl (own_w55 hw)) (Or.inl (own_w43 hw)) (by decide) (t := .int) (t' := .int) (by decide) (by decide)))
  have F5_elementData := F0e.other W5 (Or.inr (slot_ne (Or.inl (own_w46 hw)) (Or.inl (own_w43 hw)) (by decide) (t := (.array (.object "java/lang/Object"))) (t' := .int) (by decide) (by decide)))
  have Zn5 : n0 ≤ h5.size := by rw [W5.size]; exact Z0
  refine own_ret0 X5 hx hret hlk (hb hby d7_9) (by first | decide | omega) (by first | decide | omega) ?_
  exact ⟨rfl, A5, F5_size, F5_elementData, F5⟩
theorem d6_0 : decode jdk_38_method_2_code 0 = .ok (.aload_n 0, 1) := by decide +kernel
theorem d6_1 : decode jdk_38_method_2_code 1 = .ok (.invokespecial 1, 3) := by decide +kernel
theorem d6_4 : decode jdk_38_method_2_code 4 = .ok (.aload_n 0, 1) := by decide +kernel
theorem d6_5 : decode jdk_38_method_2_code 5 = .ok (.getstatic 39, 3) := by decide +kernel
theorem d6_8 : decode jdk_38_method_2_code 8 = .ok (.putfield 9, 3) := by decide +kernel
theorem d6_11 : decode jdk_38_method_2_code 11 = .ok (.return_, 1) := by decide +kernel
theorem own_ef6 (m : MethodId) (r0 : Addr) : entryFrame m #[(.ref r0)] 1 = mkF m 0 #[.val (.ref r0)] [] := by first | (simp [entryFrame, mkF, argsToLocals, Value.category]; done) | rfl
set_option maxRecDepth 65536 in
set_option maxHeartbeats 40000000 in
theorem own_c6 (l : Launch) (Z : State) (a0 : Array Value) (hw : ∀ d ∈ tables_1, d.before a0 Z = true) (h0 : Heap) (n0 : Nat) (Z0 : n0 ≤ h0.size) (r0 : Addr) (vd : Addr) (E0 : (Exa Z h0 r0 "java/util/ArrayList")) (F0s : (Fld Z h0 r0 "java/util/ArrayList" "size" "I" (.int (0 : Int32)))) (F0e : (Fld Z h0 r0 "java/util/ArrayList" "elementData" "[Ljava/lang/Object;" .null)) (F0m : (Fld Z h0 r0 "java/util/AbstractList" "modCount" "I" (.int (0 : Int32)))) (g0 : n0 ≤ r0) (S0 : (Sta Z h0 "java/util/ArrayList" "DEFAULTCAPACITY_EMPTY_ELEMENTDATA" "[Ljava/lang/Object;" (.ref vd))) :
    own_M l (⟨"java/util/ArrayList", "<init>", "()V"⟩ : MethodName) jdk_38_method_2_code 1 none [] ({ frames := 3, cells := 0, slots := 0, locals := 36 } : Room) Z #[(.ref r0)] h0 (own_Q n0 h0 [r0] (fun v h => v = none ∧ (Exa Z h r0 "java/util/ArrayList") ∧ (Fld Z h r0 "java/util/ArrayList" "size" "I" (.int (0 : Int32))) ∧ (Fld Z h r0 "java/util/ArrayList" "elementData" "[Ljava/lang/Object;" (.ref vd)) ∧ (Fld Z h r0 "java/util/AbstractList" "modCount" "I" (.int (0 : Int32))))) := by
  refine own_body (plainFor_of_name own_pn2) ?_
  intro p e s m below meth c T0 X0 hx hby hml hown hnm hret hlk hZ
  refine own_cast (own_ef6 m r0) ?_
  refine own_st (f' := (mkF m 1 #[.val (.ref r0)] [(.ref r0)])) (fun t k => XS.aloadN X0.her hx rfl (hb hby d6_0) rfl rfl k) ?_
  refine own_callC (y := (⟨"java/util/AbstractList", "<init>", "()V"⟩ : MethodName)) (W := 0) [] X0 hx hZ hown rfl (own_w29 hw) (own_w30 hw) (own_w33 hw) (own_w34 hw) (by decide) (own_c7 l Z a0 hw h0 n0 Z0 r0 E0 F0s F0e F0m g0) (allS (Or.inl (List.mem_cons_self)) all0) (by decide) (by decide) (by decide) (by decide) (by rw [hml]; rfl) own_pd1 rfl rfl (Nat.le_of_eq rfl) (hb hby d6_1) ?_
  rintro v6 T6 h6 X6 K6 ⟨rfl, Ea6, Fs6, Fe6, Fm6⟩
  have A6_r0 := E0.keep K6
  have Zn6 : n0 ≤ h6.size := Nat.le_trans Z0 K6.1
  have Sk6 := own_Sta_keep S0 K6 (allS (own_exa_ns E0) all0)
  show own_G p e below _ T6 (mkF m 4 #[.val (.ref r0)] [])
  refine own_st (f' := (mkF m 5 #[.val (.ref r0)] [(.ref r0)])) (fun t k => XS.aloadN X6.her hx rfl (hb hby d6_4) rfl rfl k) ?_
  refine own_getS X6 hx hZ hown (own_w44 hw) Sk6 (hb hby d6_5) ?_
  intro T7 X7
  refine own_putF X7 hx hZ hown (own_w45 hw) Fe6 Ea6 (Or.inl (own_w46 hw)) (own_w24 hw) (ty := (.array (.object "java/lang/Object"))) (by decide) rfl rfl (hb hby d6_8) g0 (Or.inl (List.mem_cons_self)) ?_
  intro T8 h8 X8 W8 F8 A8
  have S8_DEFAULTCAPACITY_EMPTY_ELEMENTDATA := Sk6.wr W8
  have F8_size := Fs6.other W8 (Or.inr (slot_ne (Or.inl (own_w55 hw)) (Or.inl (own_w46 hw)) (by decide) (t := .int) (t' := (.array (.object "java/lang/Object"))) (by decide) (by decide)))
  have F8_modCount := Fm6.other W8 (Or.inr (slot_ne (Or.inl (own_w43 hw)) (Or.inl (own_w46 hw)) (by decide) (t := .int) (t' := (.array (.object "java/lang/Object"))) (by decide) (by decide)))
  have Zn8 : n0 ≤ h8.size := by rw [W8.size]; exact Zn6
  refine own_ret0 X8 hx hret hlk (hb hby d6_11) (by first | decide | omega) (by first | decide | omega) ?_
  exact ⟨rfl, A8, F8_size, F8, F8_modCount⟩
theorem d12_0 : decode jdk_38_method_6_code 0 = .ok (.aload_n 0, 1) := by decide +kernel
theorem d12_1 : decode jdk_38_method_6_code 1 = .ok (.getfield 9, 3) := by decide +kernel
theorem d12_4 : decode jdk_38_method_6_code 4 = .ok (.arraylength, 1) := by decide +kernel
theorem d12_5 : decode jdk_38_method_6_code 5 = .ok (.istore_n 2, 1) := by decide +kernel
theorem d12_6 : decode jdk_38_method_6_code 6 = .ok (.iload_n 2, 1) := by decide +kernel
theorem d12_7 : decode jdk_38_method_6_code 7 = .ok (.ifCond .gt 13, 3) := by decide +kernel
theorem d12_10 : decode jdk_38_method_6_code 10 = .ok (.aload_n 0, 1) := by decide +kernel
theorem d12_11 : decode jdk_38_method_6_code 11 = .ok (.getfield 9, 3) := by decide +kernel
theorem d12_14 : decode jdk_38_method_6_code 14 = .ok (.getstatic 39, 3) := by decide +kernel
theorem d12_17 : decode jdk_38_method_6_code 17 = .ok (.if_acmp .eq 28, 3) := by decide +kernel
theorem d12_45 : decode jdk_38_method_6_code 45 = .ok (.aload_n 0, 1) := by decide +kernel
theorem d12_46 : decode jdk_38_method_6_code 46 = .ok (.bipush 10, 2) := by decide +kernel
theorem d12_48 : decode jdk_38_method_6_code 48 = .ok (.iload_n 1, 1) := by decide +kernel
theorem d12_49 : decode jdk_38_method_6_code 49 = .ok (.invokestatic 79, 3) := by decide +kernel
theorem d12_52 : decode jdk_38_method_6_code 52 = .ok (.anewarray 7, 3) := by decide +kernel
theorem d12_55 : decode jdk_38_method_6_code 55 = .ok (.dup_x1, 1) := by decide +kernel
theorem d12_56 : decode jdk_38_method_6_code 56 = .ok (.putfield 9, 3) := by decide +kernel
theorem d12_59 : decode jdk_38_method_6_code 59 = .ok (.areturn, 1) := by decide +kernel
theorem own_ef12 (m : MethodId) (r0 : Addr) (p1 : Int32) : entryFrame m #[(.ref r0), (.int p1)] 4 = mkF m 0 #[.val (.ref r0), .val (.int p1), .unset, .unset] [] := by first | (simp [entryFrame, mkF, argsToLocals, Value.category]; done) | rfl
set_option maxRecDepth 65536 in
set_option maxHeartbeats 40000000 in
theorem own_c12 (l : Launch) (Z : State) (a0 : Array Value) (hw : ∀ d ∈ tables_1, d.before a0 Z = true) (h0 : Heap) (n0 : Nat) (Z0 : n0 ≤ h0.size) (r0 : Addr) (p1 : Int32) (vd : Addr) (mc : Int32) (E0 : (Exa Z h0 r0 "java/util/ArrayList")) (F0s : (Fld Z h0 r0 "java/util/ArrayList" "size" "I" (.int (0 : Int32)))) (F0e : (Fld Z h0 r0 "java/util/ArrayList" "elementData" "[Ljava/lang/Object;" (.ref vd))) (F0m : (Fld Z h0 r0 "java/util/AbstractList" "modCount" "I" (.int mc))) (BE : own_EA Z h0 vd) (S0 : (Sta Z h0 "java/util/ArrayList" "DEFAULTCAPACITY_EMPTY_ELEMENTDATA" "[Ljava/lang/Object;" (.ref vd))) (g0 : n0 ≤ r0) (ne_vd_r0 : vd ≠ r0) (hp1 : p1 = (1 : Int32)) :
    own_M l (⟨"java/util/ArrayList", "grow", "(I)[Ljava/lang/Object;"⟩ : MethodName) jdk_38_method_6_code 4 (some (.array (.object "java/lang/Object"))) [] ({ frames := 1, cells := 1, slots := 10, locals := 14 } : Room) Z #[(.ref r0), (.int p1)] h0 (own_Q n0 h0 [r0] (fun v h => ∃ b : Addr, v = some (.ref b) ∧ h0.size ≤ b ∧ (Exa Z h r0 "java/util/ArrayList") ∧ (Fld Z h r0 "java/util/ArrayList" "size" "I" (.int (0 : Int32))) ∧ (Fld Z h r0 "java/util/ArrayList" "elementData" "[Ljava/lang/Object;" (.ref b)) ∧ (Fld Z h r0 "java/util/AbstractList" "modCount" "I" (.int mc)) ∧ own_RA Z h b [Value.null, Value.null, Value.null, Value.null, Value.null, Value.null, Value.null, Value.null, Value.null, Value.null])) := by
  refine own_body (plainFor_of_name own_pn2) ?_
  intro p e s m below meth c T0 X0 hx hby hml hown hnm hret hlk hZ
  refine own_cast (own_ef12 m r0 p1) ?_
  subst hp1
  refine own_st (f' := (mkF m 1 #[.val (.ref r0), .val (.int (1 : Int32)), .unset, .unset] [(.ref r0)])) (fun t k => XS.aloadN X0.her hx rfl (hb hby d12_0) rfl rfl k) ?_
  refine own_getF X0 hx hZ hown (own_w45 hw) F0e (hb hby d12_1) ?_
  intro T9 X9
  obtain ⟨cl10, Ar10, sz10⟩ := BE.len
  refine own_alen (n := (0 : Int32)) X9 hx hZ Ar10 (by rw [sz10]; rfl) (hb hby d12_4) ?_
  refine own_st (f' := (mkF m 6 #[.val (.ref r0), .val (.int (1 : Int32)), .val (.int (0 : Int32)), .unset] [])) (fun t k => XS.istoreN X9.her hx rfl (hb hby d12_5) rfl (l' := #[.val (.ref r0), .val (.int (1 : Int32)), .val (.int (0 : Int32)), .unset]) rfl k) ?_
  refine own_st (f' := (mkF m 7 #[.val (.ref r0), .val (.int (1 : Int32)), .val (.int (0 : Int32)), .unset] [(.int (0 : Int32))])) (fun t k => XS.iloadN X9.her hx rfl (hb hby d12_6) rfl k) ?_
  refine own_st (f' := (mkF m 10 #[.val (.ref r0), .val (.int (1 : Int32)), .val (.int (0 : Int32)), .unset] [])) (fun t k => XS.ifNo X9.her hx rfl (hb hby d12_7) rfl ((if0 _ _).trans (flt (by simp : ¬ ((0 : Int32) < (0 : Int32)))).2.2.1) k) ?_
  refine own_st (f' := (mkF m 11 #[.val (.ref r0), .val (.int (1 : Int32)), .val (.int (0 : Int32)), .unset] [(.ref r0)])) (fun t k => XS.aloadN X9.her hx rfl (hb hby d12_10) rfl rfl k) ?_
  refine own_getF X9 hx hZ hown (own_w45 hw) F0e (hb hby d12_11) ?_
  intro T11 X11
  refine own_getS X11 hx hZ hown (own_w44 hw) S0 (hb hby d12_14) ?_
  intro T12 X12
  obtain ⟨⟨locs_, Y_, N_⟩, eh_, Kp_⟩ := id X12
  refine own_st (f' := (mkF m 45 #[.val (.ref r0), .val (.int (1 : Int32)), .val (.int (0 : Int32)), .unset] [])) (fun t k => Jvm.RoadKit.acmp (g := (mkF m 17 #[.val (.ref r0), .val (.int (1 : Int32)), .val (.int (0 : Int32)), .unset] [(.ref vd), (.ref vd)])) Y_ hx rfl rfl rfl (pc0 := 17) (pc' := 45) (same := true) rfl (hb hby d12_17) rfl (decide_eq_true rfl) (by decide) (by decide) k) ?_
  refine own_st (f' := (mkF m 46 #[.val (.ref r0), .val (.int (1 : Int32)), .val (.int (0 : Int32)), .unset] [(.ref r0)])) (fun t k => XS.aloadN X12.her hx rfl (hb hby d12_45) rfl rfl k) ?_
  refine own_st (f' := (mkF m 48 #[.val (.ref r0), .val (.int (1 : Int32)), .val (.int (0 : Int32)), .unset] [(.int (10 : Int32)), (.ref r0)])) (fun t k => XS.bipush X12.her hx rfl (hb hby d12_46) k) ?_
  refine own_st (f' := (mkF m 49 #[.val (.ref r0), .val (.int (1 : Int32)), .val (.int (0 : Int32)), .unset] [(.int (1 : Int32)), (.int (10 : Int32)), (.ref r0)])) (fun t k => XS.iloadN X12.her hx rfl (hb hby d12_48) rfl k) ?_
  refine own_callSP (y := (⟨"java/lang/Math", "max", "(II)I"⟩ : MethodName)) (W := 1) [(.int (10 : Int32)), (.int (1 : Int32))] X12 hx hZ hown (own_w71 hw) (own_w1 hw) (own_w2 hw) (own_w3 hw) (by decide) (own_c1 l Z a0 hw h0 n0 Z0 (10 : Int32) (1 : Int32)) (by decide) (by decide) (by decide) (by decide) (by rw [hml]; rfl) own_pd0 rfl rfl (Nat.le_of_eq rfl) (hb hby d12_49) ?_
  intro T13 X13
  rw [show own_F1 (10 : Int32) (1 : Int32) = (10 : Int32) from by decide]
  show own_G p e below _ T13 (mkF m 52 #[.val (.ref r0), .val (.int (1 : Int32)), .val (.int (0 : Int32)), .unset] [(.int (10 : Int32)), (.ref r0)])
  refine own_newRA (kk := 10) X13 hx hZ hown (own_w72 hw) (own_w73 hw) (by decide) rfl (by decide) (by decide) (by decide) (hb hby d12_52) ?_
  intro T14 h14 b14 g14 q14 X14 E14 B14
  replace B14 : own_RA Z h14 b14 [Value.null, Value.null, Value.null, Value.null, Value.null, Value.null, Value.null, Value.null, Value.null, Value.null] := B14
  have ne_vd_b14 : vd ≠ b14 := Nat.ne_of_lt (Nat.lt_of_lt_of_le BE.lt (Nat.le_of_eq g14.symm))
  have B14_vd := BE.ext E14
  have ne_r0_b14 : r0 ≠ b14 := Nat.ne_of_lt (Nat.lt_of_lt_of_le E0.lt (Nat.le_of_eq g14.symm))
  have A14_r0 := E0.ext E14
  have F14_r0_size := F0s.ext E14
  have F14_r0_elementData := F0e.ext E14
  have F14_r0_modCount := F0m.ext E14
  have S14_DEFAULTCAPACITY_EMPTY_ELEMENTDATA := S0.ext E14
  have ga_b14 : n0 ≤ b14 := Nat.le_trans Z0 q14
  have Zn14 : n0 ≤ h14.size := Nat.le_trans Z0 E14.1
  refine own_st (f' := (mkF m 56 #[.val (.ref r0), .val (.int (1 : Int32)), .val (.int (0 : Int32)), .unset] [(.ref b14), (.ref r0), (.ref b14)])) (fun t k => XS.dupX1 X14.her hx rfl (hb hby d12_55) rfl rfl rfl k) ?_
  refine own_putF X14 hx hZ hown (own_w45 hw) F14_r0_elementData A14_r0 (Or.inl (own_w46 hw)) (own_w24 hw) (ty := (.array (.object "java/lang/Object"))) (by decide) rfl rfl (hb hby d12_56) g0 (Or.inl (List.mem_cons_self)) ?_
  intro T15 h15 X15 W15 F15 A15
  have S15_DEFAULTCAPACITY_EMPTY_ELEMENTDATA := S14_DEFAULTCAPACITY_EMPTY_ELEMENTDATA.wr W15
  have F15_size := F14_r0_size.other W15 (Or.inr (slot_ne (Or.inl (own_w55 hw)) (Or.inl (own_w46 hw)) (by decide) (t := .int) (t' := (.array (.object "java/lang/Object"))) (by decide) (by decide)))
  have F15_modCount := F14_r0_modCount.other W15 (Or.inr (slot_ne (Or.inl (own_w43 hw)) (Or.inl (own_w46 hw)) (by decide) (t := .int) (t' := (.array (.object "java/lang/Object"))) (by decide) (by decide)))
  have B15_vd := B14_vd.other W15 ne_vd_r0
  have B15_b14 := B14.other W15 (Ne.symm ne_r0_b14)
  have Zn15 : n0 ≤ h15.size := by rw [W15.size]; exact Zn14
  refine own_retA X15 hx hret hlk rfl rfl (hb hby d12_59) (by first | decide | omega) (by first | decide | omega) ?_
  exact ⟨b14, rfl, q14, A15, F15_size, F15, F15_modCount, B15_b14⟩
theorem d11_0 : decode jdk_38_method_7_code 0 = .ok (.aload_n 0, 1) := by decide +kernel
theorem d11_1 : decode jdk_38_method_7_code 1 = .ok (.aload_n 0, 1) := by decide +kernel
theorem d11_2 : decode jdk_38_method_7_code 2 = .ok (.getfield 48, 3) := by decide +kernel
theorem d11_5 : decode jdk_38_method_7_code 5 = .ok (.iconst 1, 1) := by decide +kernel
theorem d11_6 : decode jdk_38_method_7_code 6 = .ok (.iadd, 1) := by decide +kernel
theorem d11_7 : decode jdk_38_method_7_code 7 = .ok (.invokevirtual 69, 3) := by decide +kernel
theorem d11_10 : decode jdk_38_method_7_code 10 = .ok (.areturn, 1) := by decide +kernel
theorem own_ef11 (m : MethodId) (r0 : Addr) : entryFrame m #[(.ref r0)] 1 = mkF m 0 #[.val (.ref r0)] [] := by first | (simp [entryFrame, mkF, argsToLocals, Value.category]; done) | rfl
set_option maxRecDepth 65536 in
set_option maxHeartbeats 40000000 in
theorem own_c11 (l : Launch) (Z : State) (a0 : Array Value) (hw : ∀ d ∈ tables_1, d.before a0 Z = true) (h0 : Heap) (n0 : Nat) (Z0 : n0 ≤ h0.size) (r0 : Addr) (vd : Addr) (mc : Int32) (E0 : (Exa Z h0 r0 "java/util/ArrayList")) (F0s : (Fld Z h0 r0 "java/util/ArrayList" "size" "I" (.int (0 : Int32)))) (F0e : (Fld Z h0 r0 "java/util/ArrayList" "elementData" "[Ljava/lang/Object;" (.ref vd))) (F0m : (Fld Z h0 r0 "java/util/AbstractList" "modCount" "I" (.int mc))) (BE : own_EA Z h0 vd) (S0 : (Sta Z h0 "java/util/ArrayList" "DEFAULTCAPACITY_EMPTY_ELEMENTDATA" "[Ljava/lang/Object;" (.ref vd))) (g0 : n0 ≤ r0) (ne_vd_r0 : vd ≠ r0) :
    own_M l (⟨"java/util/ArrayList", "grow", "()[Ljava/lang/Object;"⟩ : MethodName) jdk_38_method_7_code 1 (some (.array (.object "java/lang/Object"))) [] ({ frames := 2, cells := 1, slots := 10, locals := 29 } : Room) Z #[(.ref r0)] h0 (own_Q n0 h0 [r0] (fun v h => ∃ b : Addr, v = some (.ref b) ∧ h0.size ≤ b ∧ (Exa Z h r0 "java/util/ArrayList") ∧ (Fld Z h r0 "java/util/ArrayList" "size" "I" (.int (0 : Int32))) ∧ (Fld Z h r0 "java/util/ArrayList" "elementData" "[Ljava/lang/Object;" (.ref b)) ∧ (Fld Z h r0 "java/util/AbstractList" "modCount" "I" (.int mc)) ∧ own_RA Z h b [Value.null, Value.null, Value.null, Value.null, Value.null, Value.null, Value.null, Value.null, Value.null, Value.null])) := by
  refine own_body (plainFor_of_name own_pn2) ?_
  intro p e s m below meth c T0 X0 hx hby hml hown hnm hret hlk hZ
  refine own_cast (own_ef11 m r0) ?_
  refine own_st (f' := (mkF m 1 #[.val (.ref r0)] [(.ref r0)])) (fun t k => XS.aloadN X0.her hx rfl (hb hby d11_0) rfl rfl k) ?_
  refine own_st (f' := (mkF m 2 #[.val (.ref r0)] [(.ref r0), (.ref r0)])) (fun t k => XS.aloadN X0.her hx rfl (hb hby d11_1) rfl rfl k) ?_
  refine own_getF X0 hx hZ hown (own_w54 hw) F0s (hb hby d11_2) ?_
  intro T16 X16
  refine own_st (f' := (mkF m 6 #[.val (.ref r0)] [(.int (1 : Int32)), (.int (0 : Int32)), (.ref r0)])) (fun t k => XS.iconst X16.her hx rfl (hb hby d11_5) k) ?_
  refine own_st (f' := (mkF m 7 #[.val (.ref r0)] [(.int (1 : Int32)), (.ref r0)])) (fun t k => XS.iadd X16.her hx rfl (hb hby d11_6) rfl k) ?_
  refine own_callW (y := (⟨"java/util/ArrayList", "grow", "(I)[Ljava/lang/Object;"⟩ : MethodName)) (W := 0) [(.int (1 : Int32))] X16 hx hZ hown (own_w66 hw) (own_w68 hw) (own_w69 hw) (own_w67 hw) (own_w25 hw) (own_w70 hw) (by decide) E0 (own_c12 l Z a0 hw h0 n0 Z0 r0 (1 : Int32) vd mc E0 F0s F0e F0m BE S0 g0 ne_vd_r0 rfl) (allS (Or.inl (List.mem_cons_self)) all0) (by decide) (by decide) (by decide) (by decide) (by rw [hml]; rfl) own_pd2 rfl rfl (Nat.le_of_eq rfl) (hb hby d11_7) ?_
  rintro v17 T17 h17 X17 K17 ⟨bg17, rfl, qg17, Ea17, Fs17, Fe17, Fm17, Bg17⟩
  have B17_vd := BE.keep K17 (ninS ne_vd_r0 nin0)
  have A17_r0 := E0.keep K17
  have Zn17 : n0 ≤ h17.size := Nat.le_trans Z0 K17.1
  have Sk17 := own_Sta_keep S0 K17 (allS (own_exa_ns E0) all0)
  have ga_bg17 : n0 ≤ bg17 := Nat.le_trans Z0 qg17
  have qa_bg17 : h0.size ≤ bg17 := Nat.le_trans X16.2.2.1 qg17
  have ne_r0_bg17 : r0 ≠ bg17 := Nat.ne_of_lt (Nat.lt_of_lt_of_le E0.lt qg17)
  have ne_vd_bg17 : vd ≠ bg17 := Nat.ne_of_lt (Nat.lt_of_lt_of_le BE.lt qg17)
  show own_G p e below _ T17 (mkF m 10 #[.val (.ref r0)] [(.ref bg17)])
  refine own_retA X17 hx hret hlk rfl rfl (hb hby d11_10) (by first | decide | omega) (by first | decide | omega) ?_
  exact ⟨bg17, rfl, qa_bg17, Ea17, Fs17, Fe17, Fm17, Bg17⟩
theorem d10_0 : decode jdk_38_method_24_code 0 = .ok (.iload_n 3, 1) := by decide +kernel
theorem d10_1 : decode jdk_38_method_24_code 1 = .ok (.aload_n 2, 1) := by decide +kernel
theorem d10_2 : decode jdk_38_method_24_code 2 = .ok (.arraylength, 1) := by decide +kernel
theorem d10_3 : decode jdk_38_method_24_code 3 = .ok (.if_icmp .ne 8, 3) := by decide +kernel
theorem d10_6 : decode jdk_38_method_24_code 6 = .ok (.aload_n 0, 1) := by decide +kernel
theorem d10_7 : decode jdk_38_method_24_code 7 = .ok (.invokevirtual 129, 3) := by decide +kernel
theorem d10_10 : decode jdk_38_method_24_code 10 = .ok (.astore_n 2, 1) := by decide +kernel
theorem d10_11 : decode jdk_38_method_24_code 11 = .ok (.aload_n 2, 1) := by decide +kernel
theorem d10_12 : decode jdk_38_method_24_code 12 = .ok (.iload_n 3, 1) := by decide +kernel
theorem d10_13 : decode jdk_38_method_24_code 13 = .ok (.aload_n 1, 1) := by decide +kernel
theorem d10_14 : decode jdk_38_method_24_code 14 = .ok (.aastore, 1) := by decide +kernel
theorem d10_15 : decode jdk_38_method_24_code 15 = .ok (.aload_n 0, 1) := by decide +kernel
theorem d10_16 : decode jdk_38_method_24_code 16 = .ok (.iload_n 3, 1) := by decide +kernel
theorem d10_17 : decode jdk_38_method_24_code 17 = .ok (.iconst 1, 1) := by decide +kernel
theorem d10_18 : decode jdk_38_method_24_code 18 = .ok (.iadd, 1) := by decide +kernel
theorem d10_19 : decode jdk_38_method_24_code 19 = .ok (.putfield 48, 3) := by decide +kernel
theorem d10_22 : decode jdk_38_method_24_code 22 = .ok (.return_, 1) := by decide +kernel
theorem own_ef_addb0 (m : MethodId) (r0 : Addr) (r1 : Addr) (vd : Addr) (p3 : Int32) : entryFrame m #[(.ref r0), (.ref r1), (.ref vd), (.int p3)] 4 = mkF m 0 #[.val (.ref r0), .val (.ref r1), .val (.ref vd), .val (.int p3)] [] := by first | (simp [entryFrame, mkF, argsToLocals, Value.category]; done) | rfl
set_option maxRecDepth 65536 in
set_option maxHeartbeats 40000000 in
theorem own_addb0 (l : Launch) (Z : State) (a0 : Array Value) (hw : ∀ d ∈ tables_1, d.before a0 Z = true) (h0 : Heap) (n0 : Nat) (Z0 : n0 ≤ h0.size) (r0 : Addr) (r1 : Addr) (vd : Addr) (p3 : Int32) (E0 : (Exa Z h0 r0 "java/util/ArrayList")) (F0s : (Fld Z h0 r0 "java/util/ArrayList" "size" "I" (.int (0 : Int32)))) (F0e : (Fld Z h0 r0 "java/util/ArrayList" "elementData" "[Ljava/lang/Object;" (.ref vd))) (F0m : (Fld Z h0 r0 "java/util/AbstractList" "modCount" "I" (.int (1 : Int32)))) (E1 : (Exa Z h0 r1 "com/example/bidwright/bidwright/market/Money")) (BE : own_EA Z h0 vd) (S0 : (Sta Z h0 "java/util/ArrayList" "DEFAULTCAPACITY_EMPTY_ELEMENTDATA" "[Ljava/lang/Object;" (.ref vd))) (g0 : n0 ≤ r0) (ne_vd_r0 : vd ≠ r0) (hp3 : p3 = (0 : Int32)) :
    own_M l (⟨"java/util/ArrayList", "add", "(Ljava/lang/Object;[Ljava/lang/Object;I)V"⟩ : MethodName) jdk_38_method_24_code 4 none [] ({ frames := 3, cells := 1, slots := 10, locals := 41 } : Room) Z #[(.ref r0), (.ref r1), (.ref vd), (.int p3)] h0 (own_Q n0 h0 [r0] (fun v h => v = none ∧ ∃ b : Addr, h0.size ≤ b ∧ (Exa Z h r0 "java/util/ArrayList") ∧ (Fld Z h r0 "java/util/ArrayList" "size" "I" (.int (1 : Int32))) ∧ (Fld Z h r0 "java/util/ArrayList" "elementData" "[Ljava/lang/Object;" (.ref b)) ∧ (Fld Z h r0 "java/util/AbstractList" "modCount" "I" (.int (1 : Int32))) ∧ own_RA Z h b [(Value.ref r1), Value.null, Value.null, Value.null, Value.null, Value.null, Value.null, Value.null, Value.null, Value.null])) := by
  refine own_body (plainFor_of_name own_pn2) ?_
  intro p e s m below meth c T0 X0 hx hby hml hown hnm hret hlk hZ
  refine own_cast (own_ef_addb0 m r0 r1 vd p3) ?_
  subst hp3
  refine own_st (f' := (mkF m 1 #[.val (.ref r0), .val (.ref r1), .val (.ref vd), .val (.int (0 : Int32))] [(.int (0 : Int32))])) (fun t k => XS.iloadN X0.her hx rfl (hb hby d10_0) rfl k) ?_
  refine own_st (f' := (mkF m 2 #[.val (.ref r0), .val (.ref r1), .val (.ref vd), .val (.int (0 : Int32))] [(.ref vd), (.int (0 : Int32))])) (fun t k => XS.aloadN X0.her hx rfl (hb hby d10_1) rfl rfl k) ?_
  obtain ⟨cl18, Ar18, sz18⟩ := BE.len
  refine own_alen (n := (0 : Int32)) X0 hx hZ Ar18 (by rw [sz18]; rfl) (hb hby d10_2) ?_
  refine own_st (f' := (mkF m 6 #[.val (.ref r0), .val (.ref r1), .val (.ref vd), .val (.int (0 : Int32))] [])) (fun t k => XS.icmpNo X0.her hx rfl (hb hby d10_3) rfl (teq (rfl : (0 : Int32) = (0 : Int32))).2 k) ?_
  refine own_st (f' := (mkF m 7 #[.val (.ref r0), .val (.ref r1), .val (.ref vd), .val (.int (0 : Int32))] [(.ref r0)])) (fun t k => XS.aloadN X0.her hx rfl (hb hby d10_6) rfl rfl k) ?_
  refine own_callW (y := (⟨"java/util/ArrayList", "grow", "()[Ljava/lang/Object;"⟩ : MethodName)) (W := 0) [] X0 hx hZ hown (own_w61 hw) (own_w63 hw) (own_w64 hw) (own_w62 hw) (own_w25 hw) (own_w65 hw) (by decide) E0 (own_c11 l Z a0 hw h0 n0 Z0 r0 vd (1 : Int32) E0 F0s F0e F0m BE S0 g0 ne_vd_r0) (allS (Or.inl (List.mem_cons_self)) all0) (by decide) (by decide) (by decide) (by decide) (by rw [hml]; rfl) own_pd3 rfl rfl (Nat.le_of_eq rfl) (hb hby d10_7) ?_
  rintro v19 T19 h19 X19 K19 ⟨bg19, rfl, qg19, Ea19, Fs19, Fe19, Fm19, Bg19⟩
  have B19_vd := BE.keep K19 (ninS ne_vd_r0 nin0)
  have A19_r0 := E0.keep K19
  have A19_r1 := E1.keep K19
  have Zn19 : n0 ≤ h19.size := Nat.le_trans Z0 K19.1
  have Sk19 := own_Sta_keep S0 K19 (allS (own_exa_ns E0) all0)
  have ga_bg19 : n0 ≤ bg19 := Nat.le_trans Z0 qg19
  have qa_bg19 : h0.size ≤ bg19 := Nat.le_trans X0.2.2.1 qg19
  have ne_r0_bg19 : r0 ≠ bg19 := Nat.ne_of_lt (Nat.lt_of_lt_of_le E0.lt qg19)
  have ne_vd_bg19 : vd ≠ bg19 := Nat.ne_of_lt (Nat.lt_of_lt_of_le BE.lt qg19)
  show own_G p e below _ T19 (mkF m 10 #[.val (.ref r0), .val (.ref r1), .val (.ref vd), .val (.int (0 : Int32))] [(.ref bg19)])
  refine own_st (f' := (mkF m 11 #[.val (.ref r0), .val (.ref r1), .val (.ref bg19), .val (.int (0 : Int32))] [])) (fun t k => XS.astoreN X19.her hx rfl (hb hby d10_10) rfl rfl (l' := #[.val (.ref r0), .val (.ref r1), .val (.ref bg19), .val (.int (0 : Int32))]) rfl k) ?_
  refine own_st (f' := (mkF m 12 #[.val (.ref r0), .val (.ref r1), .val (.ref bg19), .val (.int (0 : Int32))] [(.ref bg19)])) (fun t k => XS.aloadN X19.her hx rfl (hb hby d10_11) rfl rfl k) ?_
  refine own_st (f' := (mkF m 13 #[.val (.ref r0), .val (.ref r1), .val (.ref bg19), .val (.int (0 : Int32))] [(.int (0 : Int32)), (.ref bg19)])) (fun t k => XS.iloadN X19.her hx rfl (hb hby d10_12) rfl k) ?_
  refine own_st (f' := (mkF m 14 #[.val (.ref r0), .val (.ref r1), .val (.ref bg19), .val (.int (0 : Int32))] [(.ref r1), (.int (0 : Int32)), (.ref bg19)])) (fun t k => XS.aloadN X19.her hx rfl (hb hby d10_13) rfl rfl k) ?_
  refine own_rstore X19 hx hZ Bg19 (Ins.of_exa A19_r1 (own_w74 hw)) (by decide) (by show 0 < 10; decide) (hb hby d10_14) ga_bg19 (Or.inr qa_bg19) ?_
  intro T20 h20 X20 K20 W20 B20
  have S20_DEFAULTCAPACITY_EMPTY_ELEMENTDATA := Sk19.wr W20
  replace B20 : own_RA Z h20 bg19 [(Value.ref r1), Value.null, Value.null, Value.null, Value.null, Value.null, Value.null, Value.null, Value.null, Value.null] := B20
  have B20_vd := B19_vd.keep K20 (ninS ne_vd_bg19 nin0)
  have F20_r0_size := Fs19.keep K20 (ninS ne_r0_bg19 nin0)
  have F20_r0_elementData := Fe19.keep K20 (ninS ne_r0_bg19 nin0)
  have F20_r0_modCount := Fm19.keep K20 (ninS ne_r0_bg19 nin0)
  have A20_r0 := Ea19.keep K20
  have A20_r1 := A19_r1.keep K20
  have Zn20 : n0 ≤ h20.size := Nat.le_trans Zn19 K20.1
  refine own_st (f' := (mkF m 16 #[.val (.ref r0), .val (.ref r1), .val (.ref bg19), .val (.int (0 : Int32))] [(.ref r0)])) (fun t k => XS.aloadN X20.her hx rfl (hb hby d10_15) rfl rfl k) ?_
  refine own_st (f' := (mkF m 17 #[.val (.ref r0), .val (.ref r1), .val (.ref bg19), .val (.int (0 : Int32))] [(.int (0 : Int32)), (.ref r0)])) (fun t k => XS.iloadN X20.her hx rfl (hb hby d10_16) rfl k) ?_
  refine own_st (f' := (mkF m 18 #[.val (.ref r0), .val (.ref r1), .val (.ref bg19), .val (.int (0 : Int32))] [(.int (1 : Int32)), (.int (0 : Int32)), (.ref r0)])) (fun t k => XS.iconst X20.her hx rfl (hb hby d10_17) k) ?_
  refine own_st (f' := (mkF m 19 #[.val (.ref r0), .val (.ref r1), .val (.ref bg19), .val (.int (0 : Int32))] [(.int (1 : Int32)), (.ref r0)])) (fun t k => XS.iadd X20.her hx rfl (hb hby d10_18) rfl k) ?_
  refine own_putF X20 hx hZ hown (own_w54 hw) F20_r0_size A20_r0 (Or.inl (own_w55 hw)) (own_w24 hw) (ty := .int) (by decide) rfl rfl (hb hby d10_19) g0 (Or.inl (List.mem_cons_self)) ?_
  intro T21 h21 X21 W21 F21 A21
  have S21_DEFAULTCAPACITY_EMPTY_ELEMENTDATA := S20_DEFAULTCAPACITY_EMPTY_ELEMENTDATA.wr W21
  have F21_elementData := F20_r0_elementData.other W21 (Or.inr (slot_ne (Or.inl (own_w46 hw)) (Or.inl (own_w55 hw)) (by decide) (t := (.array (.object "java/lang/Object"))) (t' := .int) (by decide) (by decide)))
  have F21_modCount := F20_r0_modCount.other W21 (Or.inr (slot_ne (Or.inl (own_w43 hw)) (Or.inl (own_w55 hw)) (by decide) (t := .int) (t' := .int) (by decide) (by decide)))
  have A21_r1 := A20_r1.wr W21
  have B21_vd := B20_vd.other W21 ne_vd_r0
  have B21_bg19 := B20.other W21 (Ne.symm ne_r0_bg19)
  have Zn21 : n0 ≤ h21.size := by rw [W21.size]; exact Zn20
  refine own_ret0 X21 hx hret hlk (hb hby d10_22) (by first | decide | omega) (by first | decide | omega) ?_
  exact ⟨rfl, bg19, qa_bg19, A21, F21, F21_elementData, F21_modCount, B21_bg19⟩
theorem d9_0 : decode jdk_38_method_25_code 0 = .ok (.aload_n 0, 1) := by decide +kernel
theorem d9_1 : decode jdk_38_method_25_code 1 = .ok (.dup, 1) := by decide +kernel
theorem d9_2 : decode jdk_38_method_25_code 2 = .ok (.getfield 63, 3) := by decide +kernel
theorem d9_5 : decode jdk_38_method_25_code 5 = .ok (.iconst 1, 1) := by decide +kernel
theorem d9_6 : decode jdk_38_method_25_code 6 = .ok (.iadd, 1) := by decide +kernel
theorem d9_7 : decode jdk_38_method_25_code 7 = .ok (.putfield 63, 3) := by decide +kernel
theorem d9_10 : decode jdk_38_method_25_code 10 = .ok (.aload_n 0, 1) := by decide +kernel
theorem d9_11 : decode jdk_38_method_25_code 11 = .ok (.aload_n 1, 1) := by decide +kernel
theorem d9_12 : decode jdk_38_method_25_code 12 = .ok (.aload_n 0, 1) := by decide +kernel
theorem d9_13 : decode jdk_38_method_25_code 13 = .ok (.getfield 9, 3) := by decide +kernel
theorem d9_16 : decode jdk_38_method_25_code 16 = .ok (.aload_n 0, 1) := by decide +kernel
theorem d9_17 : decode jdk_38_method_25_code 17 = .ok (.getfield 48, 3) := by decide +kernel
theorem d9_20 : decode jdk_38_method_25_code 20 = .ok (.invokevirtual 131, 3) := by decide +kernel
theorem d9_23 : decode jdk_38_method_25_code 23 = .ok (.iconst 1, 1) := by decide +kernel
theorem d9_24 : decode jdk_38_method_25_code 24 = .ok (.ireturn, 1) := by decide +kernel
theorem own_ef_add0 (m : MethodId) (r0 : Addr) (r1 : Addr) : entryFrame m #[(.ref r0), (.ref r1)] 2 = mkF m 0 #[.val (.ref r0), .val (.ref r1)] [] := by first | (simp [entryFrame, mkF, argsToLocals, Value.category]; done) | rfl
set_option maxRecDepth 65536 in
set_option maxHeartbeats 40000000 in
theorem own_add0 (l : Launch) (Z : State) (a0 : Array Value) (hw : ∀ d ∈ tables_1, d.before a0 Z = true) (h0 : Heap) (n0 : Nat) (Z0 : n0 ≤ h0.size) (r0 : Addr) (r1 : Addr) (vd : Addr) (E0 : (Exa Z h0 r0 "java/util/ArrayList")) (F0s : (Fld Z h0 r0 "java/util/ArrayList" "size" "I" (.int (0 : Int32)))) (F0e : (Fld Z h0 r0 "java/util/ArrayList" "elementData" "[Ljava/lang/Object;" (.ref vd))) (F0m : (Fld Z h0 r0 "java/util/AbstractList" "modCount" "I" (.int (0 : Int32)))) (E1 : (Exa Z h0 r1 "com/example/bidwright/bidwright/market/Money")) (BE : own_EA Z h0 vd) (S0 : (Sta Z h0 "java/util/ArrayList" "DEFAULTCAPACITY_EMPTY_ELEMENTDATA" "[Ljava/lang/Object;" (.ref vd))) (g0 : n0 ≤ r0) (ne_vd_r0 : vd ≠ r0) :
    own_M l (⟨"java/util/ArrayList", "add", "(Ljava/lang/Object;)Z"⟩ : MethodName) jdk_38_method_25_code 2 (some .boolean) [] ({ frames := 4, cells := 1, slots := 10, locals := 56 } : Room) Z #[(.ref r0), (.ref r1)] h0 (own_Q n0 h0 [r0] (fun v h => v = some (.int 1) ∧ ∃ b : Addr, h0.size ≤ b ∧ (Exa Z h r0 "java/util/ArrayList") ∧ (Fld Z h r0 "java/util/ArrayList" "size" "I" (.int (1 : Int32))) ∧ (Fld Z h r0 "java/util/ArrayList" "elementData" "[Ljava/lang/Object;" (.ref b)) ∧ (Fld Z h r0 "java/util/AbstractList" "modCount" "I" (.int (1 : Int32))) ∧ own_RA Z h b [(Value.ref r1), Value.null, Value.null, Value.null, Value.null, Value.null, Value.null, Value.null, Value.null, Value.null])) := by
  refine own_body (plainFor_of_name own_pn2) ?_
  intro p e s m below meth c T0 X0 hx hby hml hown hnm hret hlk hZ
  refine own_cast (own_ef_add0 m r0 r1) ?_
  refine own_st (f' := (mkF m 1 #[.val (.ref r0), .val (.ref r1)] [(.ref r0)])) (fun t k => XS.aloadN X0.her hx rfl (hb hby d9_0) rfl rfl k) ?_
  refine own_st (f' := (mkF m 2 #[.val (.ref r0), .val (.ref r1)] [(.ref r0), (.ref r0)])) (fun t k => XS.dup X0.her hx rfl (hb hby d9_1) rfl rfl k) ?_
  refine own_getFV X0 hx hZ hown (own_w52 hw) (Via.of (own_w53 hw)) F0m (hb hby d9_2) ?_
  intro T22 X22
  refine own_st (f' := (mkF m 6 #[.val (.ref r0), .val (.ref r1)] [(.int (1 : Int32)), (.int (0 : Int32)), (.ref r0)])) (fun t k => XS.iconst X22.her hx rfl (hb hby d9_5) k) ?_
  refine own_st (f' := (mkF m 7 #[.val (.ref r0), .val (.ref r1)] [(.int (1 : Int32)), (.ref r0)])) (fun t k => XS.iadd X22.her hx rfl (hb hby d9_6) rfl k) ?_
  refine own_putFV X22 hx hZ hown (own_w52 hw) (Via.of (own_w53 hw)) F0m E0 (Or.inl (own_w43 hw)) (own_w24 hw) (ty := .int) (by decide) rfl rfl (hb hby d9_7) g0 (Or.inl (List.mem_cons_self)) ?_
  intro T23 h23 X23 W23 F23 A23
  have S23_DEFAULTCAPACITY_EMPTY_ELEMENTDATA := S0.wr W23
  have F23_size := F0s.other W23 (Or.inr (slot_ne (Or.inl (own_w55 hw)) (Or.inl (own_w43 hw)) (by decide) (t := .int) (t' := .int) (by decide) (by decide)))
  have F23_elementData := F0e.other W23 (Or.inr (slot_ne (Or.inl (own_w46 hw)) (Or.inl (own_w43 hw)) (by decide) (t := (.array (.object "java/lang/Object"))) (t' := .int) (by decide) (by decide)))
  have A23_r1 := E1.wr W23
  have B23_vd := BE.other W23 ne_vd_r0
  have Zn23 : n0 ≤ h23.size := by rw [W23.size]; exact Z0
  refine own_st (f' := (mkF m 11 #[.val (.ref r0), .val (.ref r1)] [(.ref r0)])) (fun t k => XS.aloadN X23.her hx rfl (hb hby d9_10) rfl rfl k) ?_
  refine own_st (f' := (mkF m 12 #[.val (.ref r0), .val (.ref r1)] [(.ref r1), (.ref r0)])) (fun t k => XS.aloadN X23.her hx rfl (hb hby d9_11) rfl rfl k) ?_
  refine own_st (f' := (mkF m 13 #[.val (.ref r0), .val (.ref r1)] [(.ref r0), (.ref r1), (.ref r0)])) (fun t k => XS.aloadN X23.her hx rfl (hb hby d9_12) rfl rfl k) ?_
  refine own_getF X23 hx hZ hown (own_w45 hw) F23_elementData (hb hby d9_13) ?_
  intro T24 X24
  refine own_st (f' := (mkF m 17 #[.val (.ref r0), .val (.ref r1)] [(.ref r0), (.ref vd), (.ref r1), (.ref r0)])) (fun t k => XS.aloadN X24.her hx rfl (hb hby d9_16) rfl rfl k) ?_
  refine own_getF X24 hx hZ hown (own_w54 hw) F23_size (hb hby d9_17) ?_
  intro T25 X25
  refine own_callW (y := (⟨"java/util/ArrayList", "add", "(Ljava/lang/Object;[Ljava/lang/Object;I)V"⟩ : MethodName)) (W := 0) [(.ref r1), (.ref vd), (.int (0 : Int32))] X25 hx hZ hown (own_w56 hw) (own_w58 hw) (own_w59 hw) (own_w57 hw) (own_w25 hw) (own_w60 hw) (by decide) A23 (own_addb0 l Z a0 hw h23 n0 Zn23 r0 r1 vd (0 : Int32) A23 F23_size F23_elementData F23 A23_r1 B23_vd S23_DEFAULTCAPACITY_EMPTY_ELEMENTDATA g0 ne_vd_r0 rfl) (allS (Or.inl (List.mem_cons_self)) all0) (by decide) (by decide) (by decide) (by decide) (by rw [hml]; rfl) own_pd4 rfl rfl (Nat.le_of_eq rfl) (hb hby d9_20) ?_
  rintro v26 T26 h26 X26 K26 ⟨rfl, bg26, qg26, Ea26, Fs26, Fe26, Fm26, Bg26⟩
  have B26_vd := B23_vd.keep K26 (ninS ne_vd_r0 nin0)
  have A26_r0 := A23.keep K26
  have A26_r1 := A23_r1.keep K26
  have Zn26 : n0 ≤ h26.size := Nat.le_trans Zn23 K26.1
  have ga_bg26 : n0 ≤ bg26 := Nat.le_trans Zn23 qg26
  have qa_bg26 : h0.size ≤ bg26 := Nat.le_trans X25.2.2.1 qg26
  have Sk26 := own_Sta_keep S23_DEFAULTCAPACITY_EMPTY_ELEMENTDATA K26 (allS (own_exa_ns A23) all0)
  have ne_r0_bg26 : r0 ≠ bg26 := Nat.ne_of_lt (Nat.lt_of_lt_of_le A23.lt qg26)
  have ne_r1_bg26 : r1 ≠ bg26 := Nat.ne_of_lt (Nat.lt_of_lt_of_le A23_r1.lt qg26)
  have ne_vd_bg26 : vd ≠ bg26 := Nat.ne_of_lt (Nat.lt_of_lt_of_le B23_vd.lt qg26)
  show own_G p e below _ T26 (mkF m 23 #[.val (.ref r0), .val (.ref r1)] [])
  refine own_st (f' := (mkF m 24 #[.val (.ref r0), .val (.ref r1)] [(.int (1 : Int32))])) (fun t k => XS.iconst X26.her hx rfl (hb hby d9_23) k) ?_
  refine own_retN (t := .boolean) X26 hx hret hlk (by simp) (hb hby d9_24) (by first | decide | omega) (by first | decide | omega) ?_
  exact ⟨congrArg (fun q => some (Value.int q)) (by decide), bg26, qa_bg26, Ea26, Fs26, Fe26, Fm26, Bg26⟩
theorem own_ef_addb1 (m : MethodId) (r0 : Addr) (r1 : Addr) (es : Addr) (p3 : Int32) : entryFrame m #[(.ref r0), (.ref r1), (.ref es), (.int p3)] 4 = mkF m 0 #[.val (.ref r0), .val (.ref r1), .val (.ref es), .val (.int p3)] [] := by first | (simp [entryFrame, mkF, argsToLocals, Value.category]; done) | rfl
set_option maxRecDepth 65536 in
set_option maxHeartbeats 40000000 in
theorem own_addb1 (l : Launch) (Z : State) (a0 : Array Value) (hw : ∀ d ∈ tables_1, d.before a0 Z = true) (h0 : Heap) (n0 : Nat) (Z0 : n0 ≤ h0.size) (r0 : Addr) (r1 : Addr) (es : Addr) (p3 : Int32) (y0 : Addr) (E0 : (Exa Z h0 r0 "java/util/ArrayList")) (F0s : (Fld Z h0 r0 "java/util/ArrayList" "size" "I" (.int (1 : Int32)))) (F0e : (Fld Z h0 r0 "java/util/ArrayList" "elementData" "[Ljava/lang/Object;" (.ref es))) (F0m : (Fld Z h0 r0 "java/util/AbstractList" "modCount" "I" (.int (2 : Int32)))) (E1 : (Exa Z h0 r1 "com/example/bidwright/bidwright/market/Money")) (BR : own_RA Z h0 es [(Value.ref y0), Value.null, Value.null, Value.null, Value.null, Value.null, Value.null, Value.null, Value.null, Value.null]) (g0 : n0 ≤ r0) (g1 : n0 ≤ es) (ne_r0_es : r0 ≠ es) (hp3 : p3 = (1 : Int32)) :
    own_M l (⟨"java/util/ArrayList", "add", "(Ljava/lang/Object;[Ljava/lang/Object;I)V"⟩ : MethodName) jdk_38_method_24_code 4 none [] ({ frames := 0, cells := 0, slots := 0, locals := 0 } : Room) Z #[(.ref r0), (.ref r1), (.ref es), (.int p3)] h0 (own_Q n0 h0 [r0, es] (fun v h => v = none ∧ (Exa Z h r0 "java/util/ArrayList") ∧ (Fld Z h r0 "java/util/ArrayList" "size" "I" (.int (2 : Int32))) ∧ (Fld Z h r0 "java/util/ArrayList" "elementData" "[Ljava/lang/Object;" (.ref es)) ∧ (Fld Z h r0 "java/util/AbstractList" "modCount" "I" (.int (2 : Int32))) ∧ own_RA Z h es [(Value.ref y0), (Value.ref r1), Value.null, Value.null, Value.null, Value.null, Value.null, Value.null, Value.null, Value.null])) := by
  refine own_body (plainFor_of_name own_pn2) ?_
  intro p e s m below meth c T0 X0 hx hby hml hown hnm hret hlk hZ
  refine own_cast (own_ef_addb1 m r0 r1 es p3) ?_
  subst hp3
  refine own_st (f' := (mkF m 1 #[.val (.ref r0), .val (.ref r1), .val (.ref es), .val (.int (1 : Int32))] [(.int (1 : Int32))])) (fun t k => XS.iloadN X0.her hx rfl (hb hby d10_0) rfl k) ?_
  refine own_st (f' := (mkF m 2 #[.val (.ref r0), .val (.ref r1), .val (.ref es), .val (.int (1 : Int32))] [(.ref es), (.int (1 : Int32))])) (fun t k => XS.aloadN X0.her hx rfl (hb hby d10_1) rfl rfl k) ?_
  obtain ⟨cl27, Ar27, sz27⟩ := BR.len
  refine own_alen (n := (10 : Int32)) X0 hx hZ Ar27 (by rw [sz27]; rfl) (hb hby d10_2) ?_
  refine own_st (f' := (mkF m 11 #[.val (.ref r0), .val (.ref r1), .val (.ref es), .val (.int (1 : Int32))] [])) (fun t k => XS.icmpYes X0.her hx rfl (pc0 := 3) (pc' := 11) rfl (hb hby d10_3) rfl (feq (by decide : ¬ ((1 : Int32) = (10 : Int32)))).2 (by decide) (by decide) k) ?_
  refine own_st (f' := (mkF m 12 #[.val (.ref r0), .val (.ref r1), .val (.ref es), .val (.int (1 : Int32))] [(.ref es)])) (fun t k => XS.aloadN X0.her hx rfl (hb hby d10_11) rfl rfl k) ?_
  refine own_st (f' := (mkF m 13 #[.val (.ref r0), .val (.ref r1), .val (.ref es), .val (.int (1 : Int32))] [(.int (1 : Int32)), (.ref es)])) (fun t k => XS.iloadN X0.her hx rfl (hb hby d10_12) rfl k) ?_
  refine own_st (f' := (mkF m 14 #[.val (.ref r0), .val (.ref r1), .val (.ref es), .val (.int (1 : Int32))] [(.ref r1), (.int (1 : Int32)), (.ref es)])) (fun t k => XS.aloadN X0.her hx rfl (hb hby d10_13) rfl rfl k) ?_
  refine own_rstore X0 hx hZ BR (Ins.of_exa E1 (own_w74 hw)) (by decide) (by show 1 < 10; decide) (hb hby d10_14) g1 (Or.inl (List.mem_cons_of_mem _ List.mem_cons_self)) ?_
  intro T28 h28 X28 K28 W28 B28
  replace B28 : own_RA Z h28 es [(Value.ref y0), (Value.ref r1), Value.null, Value.null, Value.null, Value.null, Value.null, Value.null, Value.null, Value.null] := B28
  have F28_r0_size := F0s.keep K28 (ninS ne_r0_es nin0)
  have F28_r0_elementData := F0e.keep K28 (ninS ne_r0_es nin0)
  have F28_r0_modCount := F0m.keep K28 (ninS ne_r0_es nin0)
  have A28_r0 := E0.keep K28
  have A28_r1 := E1.keep K28
  have Zn28 : n0 ≤ h28.size := Nat.le_trans Z0 K28.1
  refine own_st (f' := (mkF m 16 #[.val (.ref r0), .val (.ref r1), .val (.ref es), .val (.int (1 : Int32))] [(.ref r0)])) (fun t k => XS.aloadN X28.her hx rfl (hb hby d10_15) rfl rfl k) ?_
  refine own_st (f' := (mkF m 17 #[.val (.ref r0), .val (.ref r1), .val (.ref es), .val (.int (1 : Int32))] [(.int (1 : Int32)), (.ref r0)])) (fun t k => XS.iloadN X28.her hx rfl (hb hby d10_16) rfl k) ?_
  refine own_st (f' := (mkF m 18 #[.val (.ref r0), .val (.ref r1), .val (.ref es), .val (.int (1 : Int32))] [(.int (1 : Int32)), (.int (1 : Int32)), (.ref r0)])) (fun t k => XS.iconst X28.her hx rfl (hb hby d10_17) k) ?_
  refine own_st (f' := (mkF m 19 #[.val (.ref r0), .val (.ref r1), .val (.ref es), .val (.int (1 : Int32))] [(.int (2 : Int32)), (.ref r0)])) (fun t k => XS.iadd X28.her hx rfl (hb hby d10_18) rfl k) ?_
  refine own_putF X28 hx hZ hown (own_w54 hw) F28_r0_size A28_r0 (Or.inl (own_w55 hw)) (own_w24 hw) (ty := .int) (by decide) rfl rfl (hb hby d10_19) g0 (Or.inl (List.mem_cons_self)) ?_
  intro T29 h29 X29 W29 F29 A29
  have F29_elementData := F28_r0_elementData.other W29 (Or.inr (slot_ne (Or.inl (own_w46 hw)) (Or.inl (own_w55 hw)) (by decide) (t := (.array (.object "java/lang/Object"))) (t' := .int) (by decide) (by decide)))
  have F29_modCount := F28_r0_modCount.other W29 (Or.inr (slot_ne (Or.inl (own_w43 hw)) (Or.inl (own_w55 hw)) (by decide) (t := .int) (t' := .int) (by decide) (by decide)))
  have A29_r1 := A28_r1.wr W29
  have B29_es := B28.other W29 (Ne.symm ne_r0_es)
  have Zn29 : n0 ≤ h29.size := by rw [W29.size]; exact Zn28
  refine own_ret0 X29 hx hret hlk (hb hby d10_22) (by first | decide | omega) (by first | decide | omega) ?_
  exact ⟨rfl, A29, F29, F29_elementData, F29_modCount, B29_es⟩
theorem own_ef_add1 (m : MethodId) (r0 : Addr) (r1 : Addr) : entryFrame m #[(.ref r0), (.ref r1)] 2 = mkF m 0 #[.val (.ref r0), .val (.ref r1)] [] := by first | (simp [entryFrame, mkF, argsToLocals, Value.category]; done) | rfl
set_option maxRecDepth 65536 in
set_option maxHeartbeats 40000000 in
theorem own_add1 (l : Launch) (Z : State) (a0 : Array Value) (hw : ∀ d ∈ tables_1, d.before a0 Z = true) (h0 : Heap) (n0 : Nat) (Z0 : n0 ≤ h0.size) (r0 : Addr) (r1 : Addr) (es : Addr) (y0 : Addr) (E0 : (Exa Z h0 r0 "java/util/ArrayList")) (F0s : (Fld Z h0 r0 "java/util/ArrayList" "size" "I" (.int (1 : Int32)))) (F0e : (Fld Z h0 r0 "java/util/ArrayList" "elementData" "[Ljava/lang/Object;" (.ref es))) (F0m : (Fld Z h0 r0 "java/util/AbstractList" "modCount" "I" (.int (1 : Int32)))) (E1 : (Exa Z h0 r1 "com/example/bidwright/bidwright/market/Money")) (BR : own_RA Z h0 es [(Value.ref y0), Value.null, Value.null, Value.null, Value.null, Value.null, Value.null, Value.null, Value.null, Value.null]) (g0 : n0 ≤ r0) (g1 : n0 ≤ es) (ne_r0_es : r0 ≠ es) :
    own_M l (⟨"java/util/ArrayList", "add", "(Ljava/lang/Object;)Z"⟩ : MethodName) jdk_38_method_25_code 2 (some .boolean) [] ({ frames := 1, cells := 0, slots := 0, locals := 15 } : Room) Z #[(.ref r0), (.ref r1)] h0 (own_Q n0 h0 [r0, es] (fun v h => v = some (.int 1) ∧ (Exa Z h r0 "java/util/ArrayList") ∧ (Fld Z h r0 "java/util/ArrayList" "size" "I" (.int (2 : Int32))) ∧ (Fld Z h r0 "java/util/ArrayList" "elementData" "[Ljava/lang/Object;" (.ref es)) ∧ (Fld Z h r0 "java/util/AbstractList" "modCount" "I" (.int (2 : Int32))) ∧ own_RA Z h es [(Value.ref y0), (Value.ref r1), Value.null, Value.null, Value.null, Value.null, Value.null, Value.null, Value.null, Value.null])) := by
  refine own_body (plainFor_of_name own_pn2) ?_
  intro p e s m below meth c T0 X0 hx hby hml hown hnm hret hlk hZ
  refine own_cast (own_ef_add1 m r0 r1) ?_
  refine own_st (f' := (mkF m 1 #[.val (.ref r0), .val (.ref r1)] [(.ref r0)])) (fun t k => XS.aloadN X0.her hx rfl (hb hby d9_0) rfl rfl k) ?_
  refine own_st (f' := (mkF m 2 #[.val (.ref r0), .val (.ref r1)] [(.ref r0), (.ref r0)])) (fun t k => XS.dup X0.her hx rfl (hb hby d9_1) rfl rfl k) ?_
  refine own_getFV X0 hx hZ hown (own_w52 hw) (Via.of (own_w53 hw)) F0m (hb hby d9_2) ?_
  intro T30 X30
  refine own_st (f' := (mkF m 6 #[.val (.ref r0), .val (.ref r1)] [(.int (1 : Int32)), (.int (1 : Int32)), (.ref r0)])) (fun t k => XS.iconst X30.her hx rfl (hb hby d9_5) k) ?_
  refine own_st (f' := (mkF m 7 #[.val (.ref r0), .val (.ref r1)] [(.int (2 : Int32)), (.ref r0)])) (fun t k => XS.iadd X30.her hx rfl (hb hby d9_6) rfl k) ?_
  refine own_putFV X30 hx hZ hown (own_w52 hw) (Via.of (own_w53 hw)) F0m E0 (Or.inl (own_w43 hw)) (own_w24 hw) (ty := .int) (by decide) rfl rfl (hb hby d9_7) g0 (Or.inl (List.mem_cons_self)) ?_
  intro T31 h31 X31 W31 F31 A31
  have F31_size := F0s.other W31 (Or.inr (slot_ne (Or.inl (own_w55 hw)) (Or.inl (own_w43 hw)) (by decide) (t := .int) (t' := .int) (by decide) (by decide)))
  have F31_elementData := F0e.other W31 (Or.inr (slot_ne (Or.inl (own_w46 hw)) (Or.inl (own_w43 hw)) (by decide) (t := (.array (.object "java/lang/Object"))) (t' := .int) (by decide) (by decide)))
  have A31_r1 := E1.wr W31
  have B31_es := BR.other W31 (Ne.symm ne_r0_es)
  have Zn31 : n0 ≤ h31.size := by rw [W31.size]; exact Z0
  refine own_st (f' := (mkF m 11 #[.val (.ref r0), .val (.ref r1)] [(.ref r0)])) (fun t k => XS.aloadN X31.her hx rfl (hb hby d9_10) rfl rfl k) ?_
  refine own_st (f' := (mkF m 12 #[.val (.ref r0), .val (.ref r1)] [(.ref r1), (.ref r0)])) (fun t k => XS.aloadN X31.her hx rfl (hb hby d9_11) rfl rfl k) ?_
  refine own_st (f' := (mkF m 13 #[.val (.ref r0), .val (.ref r1)] [(.ref r0), (.ref r1), (.ref r0)])) (fun t k => XS.aloadN X31.her hx rfl (hb hby d9_12) rfl rfl k) ?_
  refine own_getF X31 hx hZ hown (own_w45 hw) F31_elementData (hb hby d9_13) ?_
  intro T32 X32
  refine own_st (f' := (mkF m 17 #[.val (.ref r0), .val (.ref r1)] [(.ref r0), (.ref es), (.ref r1), (.ref r0)])) (fun t k => XS.aloadN X32.her hx rfl (hb hby d9_16) rfl rfl k) ?_
  refine own_getF X32 hx hZ hown (own_w54 hw) F31_size (hb hby d9_17) ?_
  intro T33 X33
  refine own_callW (y := (⟨"java/util/ArrayList", "add", "(Ljava/lang/Object;[Ljava/lang/Object;I)V"⟩ : MethodName)) (W := 0) [(.ref r1), (.ref es), (.int (1 : Int32))] X33 hx hZ hown (own_w56 hw) (own_w58 hw) (own_w59 hw) (own_w57 hw) (own_w25 hw) (own_w60 hw) (by decide) A31 (own_addb1 l Z a0 hw h31 n0 Zn31 r0 r1 es (1 : Int32) y0 A31 F31_size F31_elementData F31 A31_r1 B31_es g0 g1 ne_r0_es rfl) (allS (Or.inl (List.mem_cons_self)) (allS (Or.inl (List.mem_cons_of_mem _ List.mem_cons_self)) all0)) (by decide) (by decide) (by decide) (by decide) (by rw [hml]; rfl) own_pd4 rfl rfl (Nat.le_of_eq rfl) (hb hby d9_20) ?_
  rintro v34 T34 h34 X34 K34 ⟨rfl, Ea34, Fs34, Fe34, Fm34, Bg34⟩
  have A34_r0 := A31.keep K34
  have A34_r1 := A31_r1.keep K34
  have Zn34 : n0 ≤ h34.size := Nat.le_trans Zn31 K34.1
  show own_G p e below _ T34 (mkF m 23 #[.val (.ref r0), .val (.ref r1)] [])
  refine own_st (f' := (mkF m 24 #[.val (.ref r0), .val (.ref r1)] [(.int (1 : Int32))])) (fun t k => XS.iconst X34.her hx rfl (hb hby d9_23) k) ?_
  refine own_retN (t := .boolean) X34 hx hret hlk (by simp) (hb hby d9_24) (by first | decide | omega) (by first | decide | omega) ?_
  exact ⟨congrArg (fun q => some (Value.int q)) (by decide), Ea34, Fs34, Fe34, Fm34, Bg34⟩
theorem own_ef_addb2 (m : MethodId) (r0 : Addr) (r1 : Addr) (es : Addr) (p3 : Int32) : entryFrame m #[(.ref r0), (.ref r1), (.ref es), (.int p3)] 4 = mkF m 0 #[.val (.ref r0), .val (.ref r1), .val (.ref es), .val (.int p3)] [] := by first | (simp [entryFrame, mkF, argsToLocals, Value.category]; done) | rfl
set_option maxRecDepth 65536 in
set_option maxHeartbeats 40000000 in
theorem own_addb2 (l : Launch) (Z : State) (a0 : Array Value) (hw : ∀ d ∈ tables_1, d.before a0 Z = true) (h0 : Heap) (n0 : Nat) (Z0 : n0 ≤ h0.size) (r0 : Addr) (r1 : Addr) (es : Addr) (p3 : Int32) (y0 : Addr) (y1 : Addr) (E0 : (Exa Z h0 r0 "java/util/ArrayList")) (F0s : (Fld Z h0 r0 "java/util/ArrayList" "size" "I" (.int (2 : Int32)))) (F0e : (Fld Z h0 r0 "java/util/ArrayList" "elementData" "[Ljava/lang/Object;" (.ref es))) (F0m : (Fld Z h0 r0 "java/util/AbstractList" "modCount" "I" (.int (3 : Int32)))) (E1 : (Exa Z h0 r1 "com/example/bidwright/bidwright/market/Money")) (BR : own_RA Z h0 es [(Value.ref y0), (Value.ref y1), Value.null, Value.null, Value.null, Value.null, Value.null, Value.null, Value.null, Value.null]) (g0 : n0 ≤ r0) (g1 : n0 ≤ es) (ne_r0_es : r0 ≠ es) (hp3 : p3 = (2 : Int32)) :
    own_M l (⟨"java/util/ArrayList", "add", "(Ljava/lang/Object;[Ljava/lang/Object;I)V"⟩ : MethodName) jdk_38_method_24_code 4 none [] ({ frames := 0, cells := 0, slots := 0, locals := 0 } : Room) Z #[(.ref r0), (.ref r1), (.ref es), (.int p3)] h0 (own_Q n0 h0 [r0, es] (fun v h => v = none ∧ (Exa Z h r0 "java/util/ArrayList") ∧ (Fld Z h r0 "java/util/ArrayList" "size" "I" (.int (3 : Int32))) ∧ (Fld Z h r0 "java/util/ArrayList" "elementData" "[Ljava/lang/Object;" (.ref es)) ∧ (Fld Z h r0 "java/util/AbstractList" "modCount" "I" (.int (3 : Int32))) ∧ own_RA Z h es [(Value.ref y0), (Value.ref y1), (Value.ref r1), Value.null, Value.null, Value.null, Value.null, Value.null, Value.null, Value.null])) := by
  refine own_body (plainFor_of_name own_pn2) ?_
  intro p e s m below meth c T0 X0 hx hby hml hown hnm hret hlk hZ
  refine own_cast (own_ef_addb2 m r0 r1 es p3) ?_
  subst hp3
  refine own_st (f' := (mkF m 1 #[.val (.ref r0), .val (.ref r1), .val (.ref es), .val (.int (2 : Int32))] [(.int (2 : Int32))])) (fun t k => XS.iloadN X0.her hx rfl (hb hby d10_0) rfl k) ?_
  refine own_st (f' := (mkF m 2 #[.val (.ref r0), .val (.ref r1), .val (.ref es), .val (.int (2 : Int32))] [(.ref es), (.int (2 : Int32))])) (fun t k => XS.aloadN X0.her hx rfl (hb hby d10_1) rfl rfl k) ?_
  obtain ⟨cl35, Ar35, sz35⟩ := BR.len
  refine own_alen (n := (10 : Int32)) X0 hx hZ Ar35 (by rw [sz35]; rfl) (hb hby d10_2) ?_
  refine own_st (f' := (mkF m 11 #[.val (.ref r0), .val (.ref r1), .val (.ref es), .val (.int (2 : Int32))] [])) (fun t k => XS.icmpYes X0.her hx rfl (pc0 := 3) (pc' := 11) rfl (hb hby d10_3) rfl (feq (by decide : ¬ ((2 : Int32) = (10 : Int32)))).2 (by decide) (by decide) k) ?_
  refine own_st (f' := (mkF m 12 #[.val (.ref r0), .val (.ref r1), .val (.ref es), .val (.int (2 : Int32))] [(.ref es)])) (fun t k => XS.aloadN X0.her hx rfl (hb hby d10_11) rfl rfl k) ?_
  refine own_st (f' := (mkF m 13 #[.val (.ref r0), .val (.ref r1), .val (.ref es), .val (.int (2 : Int32))] [(.int (2 : Int32)), (.ref es)])) (fun t k => XS.iloadN X0.her hx rfl (hb hby d10_12) rfl k) ?_
  refine own_st (f' := (mkF m 14 #[.val (.ref r0), .val (.ref r1), .val (.ref es), .val (.int (2 : Int32))] [(.ref r1), (.int (2 : Int32)), (.ref es)])) (fun t k => XS.aloadN X0.her hx rfl (hb hby d10_13) rfl rfl k) ?_
  refine own_rstore X0 hx hZ BR (Ins.of_exa E1 (own_w74 hw)) (by decide) (by show 2 < 10; decide) (hb hby d10_14) g1 (Or.inl (List.mem_cons_of_mem _ List.mem_cons_self)) ?_
  intro T36 h36 X36 K36 W36 B36
  replace B36 : own_RA Z h36 es [(Value.ref y0), (Value.ref y1), (Value.ref r1), Value.null, Value.null, Value.null, Value.null, Value.null, Value.null, Value.null] := B36
  have F36_r0_size := F0s.keep K36 (ninS ne_r0_es nin0)
  have F36_r0_elementData := F0e.keep K36 (ninS ne_r0_es nin0)
  have F36_r0_modCount := F0m.keep K36 (ninS ne_r0_es nin0)
  have A36_r0 := E0.keep K36
  have A36_r1 := E1.keep K36
  have Zn36 : n0 ≤ h36.size := Nat.le_trans Z0 K36.1
  refine own_st (f' := (mkF m 16 #[.val (.ref r0), .val (.ref r1), .val (.ref es), .val (.int (2 : Int32))] [(.ref r0)])) (fun t k => XS.aloadN X36.her hx rfl (hb hby d10_15) rfl rfl k) ?_
  refine own_st (f' := (mkF m 17 #[.val (.ref r0), .val (.ref r1), .val (.ref es), .val (.int (2 : Int32))] [(.int (2 : Int32)), (.ref r0)])) (fun t k => XS.iloadN X36.her hx rfl (hb hby d10_16) rfl k) ?_
  refine own_st (f' := (mkF m 18 #[.val (.ref r0), .val (.ref r1), .val (.ref es), .val (.int (2 : Int32))] [(.int (1 : Int32)), (.int (2 : Int32)), (.ref r0)])) (fun t k => XS.iconst X36.her hx rfl (hb hby d10_17) k) ?_
  refine own_st (f' := (mkF m 19 #[.val (.ref r0), .val (.ref r1), .val (.ref es), .val (.int (2 : Int32))] [(.int (3 : Int32)), (.ref r0)])) (fun t k => XS.iadd X36.her hx rfl (hb hby d10_18) rfl k) ?_
  refine own_putF X36 hx hZ hown (own_w54 hw) F36_r0_size A36_r0 (Or.inl (own_w55 hw)) (own_w24 hw) (ty := .int) (by decide) rfl rfl (hb hby d10_19) g0 (Or.inl (List.mem_cons_self)) ?_
  intro T37 h37 X37 W37 F37 A37
  have F37_elementData := F36_r0_elementData.other W37 (Or.inr (slot_ne (Or.inl (own_w46 hw)) (Or.inl (own_w55 hw)) (by decide) (t := (.array (.object "java/lang/Object"))) (t' := .int) (by decide) (by decide)))
  have F37_modCount := F36_r0_modCount.other W37 (Or.inr (slot_ne (Or.inl (own_w43 hw)) (Or.inl (own_w55 hw)) (by decide) (t := .int) (t' := .int) (by decide) (by decide)))
  have A37_r1 := A36_r1.wr W37
  have B37_es := B36.other W37 (Ne.symm ne_r0_es)
  have Zn37 : n0 ≤ h37.size := by rw [W37.size]; exact Zn36
  refine own_ret0 X37 hx hret hlk (hb hby d10_22) (by first | decide | omega) (by first | decide | omega) ?_
  exact ⟨rfl, A37, F37, F37_elementData, F37_modCount, B37_es⟩
theorem own_ef_add2 (m : MethodId) (r0 : Addr) (r1 : Addr) : entryFrame m #[(.ref r0), (.ref r1)] 2 = mkF m 0 #[.val (.ref r0), .val (.ref r1)] [] := by first | (simp [entryFrame, mkF, argsToLocals, Value.category]; done) | rfl
set_option maxRecDepth 65536 in
set_option maxHeartbeats 40000000 in
theorem own_add2 (l : Launch) (Z : State) (a0 : Array Value) (hw : ∀ d ∈ tables_1, d.before a0 Z = true) (h0 : Heap) (n0 : Nat) (Z0 : n0 ≤ h0.size) (r0 : Addr) (r1 : Addr) (es : Addr) (y0 : Addr) (y1 : Addr) (E0 : (Exa Z h0 r0 "java/util/ArrayList")) (F0s : (Fld Z h0 r0 "java/util/ArrayList" "size" "I" (.int (2 : Int32)))) (F0e : (Fld Z h0 r0 "java/util/ArrayList" "elementData" "[Ljava/lang/Object;" (.ref es))) (F0m : (Fld Z h0 r0 "java/util/AbstractList" "modCount" "I" (.int (2 : Int32)))) (E1 : (Exa Z h0 r1 "com/example/bidwright/bidwright/market/Money")) (BR : own_RA Z h0 es [(Value.ref y0), (Value.ref y1), Value.null, Value.null, Value.null, Value.null, Value.null, Value.null, Value.null, Value.null]) (g0 : n0 ≤ r0) (g1 : n0 ≤ es) (ne_r0_es : r0 ≠ es) :
    own_M l (⟨"java/util/ArrayList", "add", "(Ljava/lang/Object;)Z"⟩ : MethodName) jdk_38_method_25_code 2 (some .boolean) [] ({ frames := 1, cells := 0, slots := 0, locals := 15 } : Room) Z #[(.ref r0), (.ref r1)] h0 (own_Q n0 h0 [r0, es] (fun v h => v = some (.int 1) ∧ (Exa Z h r0 "java/util/ArrayList") ∧ (Fld Z h r0 "java/util/ArrayList" "size" "I" (.int (3 : Int32))) ∧ (Fld Z h r0 "java/util/ArrayList" "elementData" "[Ljava/lang/Object;" (.ref es)) ∧ (Fld Z h r0 "java/util/AbstractList" "modCount" "I" (.int (3 : Int32))) ∧ own_RA Z h es [(Value.ref y0), (Value.ref y1), (Value.ref r1), Value.null, Value.null, Value.null, Value.null, Value.null, Value.null, Value.null])) := by
  refine own_body (plainFor_of_name own_pn2) ?_
  intro p e s m below meth c T0 X0 hx hby hml hown hnm hret hlk hZ
  refine own_cast (own_ef_add2 m r0 r1) ?_
  refine own_st (f' := (mkF m 1 #[.val (.ref r0), .val (.ref r1)] [(.ref r0)])) (fun t k => XS.aloadN X0.her hx rfl (hb hby d9_0) rfl rfl k) ?_
  refine own_st (f' := (mkF m 2 #[.val (.ref r0), .val (.ref r1)] [(.ref r0), (.ref r0)])) (fun t k => XS.dup X0.her hx rfl (hb hby d9_1) rfl rfl k) ?_
  refine own_getFV X0 hx hZ hown (own_w52 hw) (Via.of (own_w53 hw)) F0m (hb hby d9_2) ?_
  intro T38 X38
  refine own_st (f' := (mkF m 6 #[.val (.ref r0), .val (.ref r1)] [(.int (1 : Int32)), (.int (2 : Int32)), (.ref r0)])) (fun t k => XS.iconst X38.her hx rfl (hb hby d9_5) k) ?_
  refine own_st (f' := (mkF m 7 #[.val (.ref r0), .val (.ref r1)] [(.int (3 : Int32)), (.ref r0)])) (fun t k => XS.iadd X38.her hx rfl (hb hby d9_6) rfl k) ?_
  refine own_putFV X38 hx hZ hown (own_w52 hw) (Via.of (own_w53 hw)) F0m E0 (Or.inl (own_w43 hw)) (own_w24 hw) (ty := .int) (by decide) rfl rfl (hb hby d9_7) g0 (Or.inl (List.mem_cons_self)) ?_
  intro T39 h39 X39 W39 F39 A39
  have F39_size := F0s.other W39 (Or.inr (slot_ne (Or.inl (own_w55 hw)) (Or.inl (own_w43 hw)) (by decide) (t := .int) (t' := .int) (by decide) (by decide)))
  have F39_elementData := F0e.other W39 (Or.inr (slot_ne (Or.inl (own_w46 hw)) (Or.inl (own_w43 hw)) (by decide) (t := (.array (.object "java/lang/Object"))) (t' := .int) (by decide) (by decide)))
  have A39_r1 := E1.wr W39
  have B39_es := BR.other W39 (Ne.symm ne_r0_es)
  have Zn39 : n0 ≤ h39.size := by rw [W39.size]; exact Z0
  refine own_st (f' := (mkF m 11 #[.val (.ref r0), .val (.ref r1)] [(.ref r0)])) (fun t k => XS.aloadN X39.her hx rfl (hb hby d9_10) rfl rfl k) ?_
  refine own_st (f' := (mkF m 12 #[.val (.ref r0), .val (.ref r1)] [(.ref r1), (.ref r0)])) (fun t k => XS.aloadN X39.her hx rfl (hb hby d9_11) rfl rfl k) ?_
  refine own_st (f' := (mkF m 13 #[.val (.ref r0), .val (.ref r1)] [(.ref r0), (.ref r1), (.ref r0)])) (fun t k => XS.aloadN X39.her hx rfl (hb hby d9_12) rfl rfl k) ?_
  refine own_getF X39 hx hZ hown (own_w45 hw) F39_elementData (hb hby d9_13) ?_
  intro T40 X40
  refine own_st (f' := (mkF m 17 #[.val (.ref r0), .val (.ref r1)] [(.ref r0), (.ref es), (.ref r1), (.ref r0)])) (fun t k => XS.aloadN X40.her hx rfl (hb hby d9_16) rfl rfl k) ?_
  refine own_getF X40 hx hZ hown (own_w54 hw) F39_size (hb hby d9_17) ?_
  intro T41 X41
  refine own_callW (y := (⟨"java/util/ArrayList", "add", "(Ljava/lang/Object;[Ljava/lang/Object;I)V"⟩ : MethodName)) (W := 0) [(.ref r1), (.ref es), (.int (2 : Int32))] X41 hx hZ hown (own_w56 hw) (own_w58 hw) (own_w59 hw) (own_w57 hw) (own_w25 hw) (own_w60 hw) (by decide) A39 (own_addb2 l Z a0 hw h39 n0 Zn39 r0 r1 es (2 : Int32) y0 y1 A39 F39_size F39_elementData F39 A39_r1 B39_es g0 g1 ne_r0_es rfl) (allS (Or.inl (List.mem_cons_self)) (allS (Or.inl (List.mem_cons_of_mem _ List.mem_cons_self)) all0)) (by decide) (by decide) (by decide) (by decide) (by rw [hml]; rfl) own_pd4 rfl rfl (Nat.le_of_eq rfl) (hb hby d9_20) ?_
  rintro v42 T42 h42 X42 K42 ⟨rfl, Ea42, Fs42, Fe42, Fm42, Bg42⟩
  have A42_r0 := A39.keep K42
  have A42_r1 := A39_r1.keep K42
  have Zn42 : n0 ≤ h42.size := Nat.le_trans Zn39 K42.1
  show own_G p e below _ T42 (mkF m 23 #[.val (.ref r0), .val (.ref r1)] [])
  refine own_st (f' := (mkF m 24 #[.val (.ref r0), .val (.ref r1)] [(.int (1 : Int32))])) (fun t k => XS.iconst X42.her hx rfl (hb hby d9_23) k) ?_
  refine own_retN (t := .boolean) X42 hx hret hlk (by simp) (hb hby d9_24) (by first | decide | omega) (by first | decide | omega) ?_
  exact ⟨congrArg (fun q => some (Value.int q)) (by decide), Ea42, Fs42, Fe42, Fm42, Bg42⟩
theorem d4_0 : decode prog_111_method_1_code 0 = .ok (.aload_n 0, 1) := by decide +kernel
theorem d4_1 : decode prog_111_method_1_code 1 = .ok (.invokespecial 1, 3) := by decide +kernel
theorem d4_4 : decode prog_111_method_1_code 4 = .ok (.aload_n 0, 1) := by decide +kernel
theorem d4_5 : decode prog_111_method_1_code 5 = .ok (.lload_n 1, 1) := by decide +kernel
theorem d4_6 : decode prog_111_method_1_code 6 = .ok (.putfield 7, 3) := by decide +kernel
theorem d4_9 : decode prog_111_method_1_code 9 = .ok (.return_, 1) := by decide +kernel
theorem own_ef4 (m : MethodId) (r0 : Addr) (q1 : Int64) : entryFrame m #[(.ref r0), (.long q1)] 3 = mkF m 0 #[.val (.ref r0), .val (.long q1), .second] [] := by first | (simp [entryFrame, mkF, argsToLocals, Value.category]; done) | rfl
set_option maxRecDepth 65536 in
set_option maxHeartbeats 40000000 in
theorem own_c4 (l : Launch) (Z : State) (a0 : Array Value) (hw : ∀ d ∈ tables_1, d.before a0 Z = true) (h0 : Heap) (n0 : Nat) (Z0 : n0 ≤ h0.size) (r0 : Addr) (q1 : Int64) (E0 : (Exa Z h0 r0 "com/example/bidwright/bidwright/market/Money")) (F0 : (Fld Z h0 r0 "com/example/bidwright/bidwright/market/Money" "cents" "J" (.long (0 : Int64)))) (g0 : n0 ≤ r0) :
    own_M l (⟨"com/example/bidwright/bidwright/market/Money", "<init>", "(J)V"⟩ : MethodName) prog_111_method_1_code 3 none [] ({ frames := 1, cells := 0, slots := 0, locals := 12 } : Room) Z #[(.ref r0), (.long q1)] h0 (own_Q n0 h0 [r0] (fun v h => v = none ∧ (Exa Z h r0 "com/example/bidwright/bidwright/market/Money") ∧ (Fld Z h r0 "com/example/bidwright/bidwright/market/Money" "cents" "J" (.long q1)))) := by
  refine own_body (plainFor_of_name own_pn3) ?_
  intro p e s m below meth c T0 X0 hx hby hml hown hnm hret hlk hZ
  refine own_cast (own_ef4 m r0 q1) ?_
  refine own_st (f' := (mkF m 1 #[.val (.ref r0), .val (.long q1), .second] [(.ref r0)])) (fun t k => XS.aloadN X0.her hx rfl (hb hby d4_0) rfl rfl k) ?_
  refine own_initO (W := 0) X0 hx hZ hown (own_w18 hw) (own_w19 hw) (own_w20 hw) (by decide) (by decide) (by rw [hml]; rfl) (Nat.le_of_eq rfl) (hb hby d4_1) ?_
  intro T43 X43
  refine own_st (f' := (mkF m 5 #[.val (.ref r0), .val (.long q1), .second] [(.ref r0)])) (fun t k => XS.aloadN X43.her hx rfl (hb hby d4_4) rfl rfl k) ?_
  refine own_st (f' := (mkF m 6 #[.val (.ref r0), .val (.long q1), .second] [(.long q1), (.ref r0)])) (fun t k => XS.lloadN X43.her hx rfl (hb hby d4_5) rfl k) ?_
  refine own_putF X43 hx hZ hown (own_w21 hw) F0 E0 (Or.inr ⟨(own_w22 hw), rfl, hnm⟩) (own_w14 hw) (ty := .long) (by decide) rfl rfl (hb hby d4_6) g0 (Or.inl (List.mem_cons_self)) ?_
  intro T44 h44 X44 W44 F44 A44
  have Zn44 : n0 ≤ h44.size := by rw [W44.size]; exact Z0
  refine own_ret0 X44 hx hret hlk (hb hby d4_9) (by first | decide | omega) (by first | decide | omega) ?_
  exact ⟨rfl, A44, F44⟩
theorem d3_0 : decode prog_111_method_3_code 0 = .ok (.new 8, 3) := by decide +kernel
theorem d3_3 : decode prog_111_method_3_code 3 = .ok (.dup, 1) := by decide +kernel
theorem d3_4 : decode prog_111_method_3_code 4 = .ok (.lload_n 0, 1) := by decide +kernel
theorem d3_5 : decode prog_111_method_3_code 5 = .ok (.invokespecial 19, 3) := by decide +kernel
theorem d3_8 : decode prog_111_method_3_code 8 = .ok (.areturn, 1) := by decide +kernel
theorem own_ef3 (m : MethodId) (q0 : Int64) : entryFrame m #[(.long q0)] 2 = mkF m 0 #[.val (.long q0), .second] [] := by first | (simp [entryFrame, mkF, argsToLocals, Value.category]; done) | rfl
set_option maxRecDepth 65536 in
set_option maxHeartbeats 40000000 in
theorem own_c3 (l : Launch) (Z : State) (a0 : Array Value) (hw : ∀ d ∈ tables_1, d.before a0 Z = true) (h0 : Heap) (n0 : Nat) (Z0 : n0 ≤ h0.size) (q0 : Int64) :
    own_M l (⟨"com/example/bidwright/bidwright/market/Money", "cents", "(J)Lcom/example/bidwright/bidwright/market/Money;"⟩ : MethodName) prog_111_method_3_code 2 (some (.object "com/example/bidwright/bidwright/market/Money")) [] ({ frames := 2, cells := 1, slots := 1, locals := 27 } : Room) Z #[(.long q0)] h0 (own_Q n0 h0 [] (fun v h => ∃ b : Addr, v = some (.ref b) ∧ h0.size ≤ b ∧ (Exa Z h b "com/example/bidwright/bidwright/market/Money") ∧ (Fld Z h b "com/example/bidwright/bidwright/market/Money" "cents" "J" (.long q0)))) := by
  refine own_body (plainFor_of_name own_pn3) ?_
  intro p e s m below meth c T0 X0 hx hby hml hown hnm hret hlk hZ
  refine own_cast (own_ef3 m q0) ?_
  refine own_newO X0 hx hZ hown (own_w13 hw) (own_w14 hw) (own_w11 hw) (hb hby d3_0) (by decide) (by decide) ?_
  intro T45 h45 b45 g45 q45 X45 E45 A45 D45
  have ga_b45 : n0 ≤ b45 := Nat.le_trans Z0 q45
  have Zn45 : n0 ≤ h45.size := Nat.le_trans Z0 E45.1
  have F45_cents : Fld Z h45 b45 "com/example/bidwright/bidwright/market/Money" "cents" "J" (.long (0 : Int64)) := D45 (Or.inr (own_w22 hw)) (ty := .long) (by decide)
  refine own_st (f' := (mkF m 4 #[.val (.long q0), .second] [(.ref b45), (.ref b45)])) (fun t k => XS.dup X45.her hx rfl (hb hby d3_3) rfl rfl k) ?_
  refine own_st (f' := (mkF m 5 #[.val (.long q0), .second] [(.long q0), (.ref b45), (.ref b45)])) (fun t k => XS.lloadN X45.her hx rfl (hb hby d3_4) rfl k) ?_
  refine own_callC (y := (⟨"com/example/bidwright/bidwright/market/Money", "<init>", "(J)V"⟩ : MethodName)) (W := 1) [(.long q0)] X45 hx hZ hown rfl (own_w15 hw) (own_w16 hw) (own_w11 hw) (own_w17 hw) (by decide) (own_c4 l Z a0 hw h45 n0 Zn45 b45 q0 A45 F45_cents ga_b45) (allS (Or.inr q45) all0) (by decide) (by decide) (by decide) (by decide) (by rw [hml]; rfl) own_pd6 rfl rfl (Nat.le_of_eq rfl) (hb hby d3_5) ?_
  rintro v46 T46 h46 X46 K46 ⟨rfl, Ax46, Fx46⟩
  have A46_b45 := A45.keep K46
  have Zn46 : n0 ≤ h46.size := Nat.le_trans Zn45 K46.1
  show own_G p e below _ T46 (mkF m 8 #[.val (.long q0), .second] [(.ref b45)])
  refine own_retA X46 hx hret hlk rfl rfl (hb hby d3_8) (by first | decide | omega) (by first | decide | omega) ?_
  exact ⟨b45, rfl, q45, Ax46, Fx46⟩
theorem d15_0 : decode jdk_38_method_8_code 0 = .ok (.aload_n 0, 1) := by decide +kernel
theorem d15_1 : decode jdk_38_method_8_code 1 = .ok (.getfield 48, 3) := by decide +kernel
theorem d15_4 : decode jdk_38_method_8_code 4 = .ok (.ireturn, 1) := by decide +kernel
theorem own_ef15 (m : MethodId) (r0 : Addr) : entryFrame m #[(.ref r0)] 1 = mkF m 0 #[.val (.ref r0)] [] := by first | (simp [entryFrame, mkF, argsToLocals, Value.category]; done) | rfl
set_option maxRecDepth 65536 in
set_option maxHeartbeats 40000000 in
theorem own_c15 (l : Launch) (Z : State) (a0 : Array Value) (hw : ∀ d ∈ tables_1, d.before a0 Z = true) (h0 : Heap) (n0 : Nat) (Z0 : n0 ≤ h0.size) (r0 : Addr) (w : Int32) (F0 : (Fld Z h0 r0 "java/util/ArrayList" "size" "I" (.int w))) :
    own_M l (⟨"java/util/ArrayList", "size", "()I"⟩ : MethodName) jdk_38_method_8_code 1 (some .int) [] ({ frames := 0, cells := 0, slots := 0, locals := 0 } : Room) Z #[(.ref r0)] h0 (own_Q n0 h0 [] (own_P (.int w) h0)) := by
  refine own_body (plainFor_of_name own_pn2) ?_
  intro p e s m below meth c T0 X0 hx hby hml hown hnm hret hlk hZ
  refine own_cast (own_ef15 m r0) ?_
  refine own_st (f' := (mkF m 1 #[.val (.ref r0)] [(.ref r0)])) (fun t k => XS.aloadN X0.her hx rfl (hb hby d15_0) rfl rfl k) ?_
  refine own_getF X0 hx hZ hown (own_w54 hw) F0 (hb hby d15_1) ?_
  intro T47 X47
  refine own_retI X47 hx hret hlk (hb hby d15_4) (by first | decide | omega) (by first | decide | omega) ?_
  exact ⟨rfl, rfl⟩
theorem d19_0 : decode jdk_38_method_18_code 0 = .ok (.aload_n 0, 1) := by decide +kernel
theorem d19_1 : decode jdk_38_method_18_code 1 = .ok (.getfield 9, 3) := by decide +kernel
theorem d19_4 : decode jdk_38_method_18_code 4 = .ok (.iload_n 1, 1) := by decide +kernel
theorem d19_5 : decode jdk_38_method_18_code 5 = .ok (.aaload, 1) := by decide +kernel
theorem d19_6 : decode jdk_38_method_18_code 6 = .ok (.areturn, 1) := by decide +kernel
theorem own_ef19 (m : MethodId) (r0 : Addr) (p1 : Int32) : entryFrame m #[(.ref r0), (.int p1)] 2 = mkF m 0 #[.val (.ref r0), .val (.int p1)] [] := by first | (simp [entryFrame, mkF, argsToLocals, Value.category]; done) | rfl
set_option maxRecDepth 65536 in
set_option maxHeartbeats 40000000 in
theorem own_c19 (l : Launch) (Z : State) (a0 : Array Value) (hw : ∀ d ∈ tables_1, d.before a0 Z = true) (h0 : Heap) (n0 : Nat) (Z0 : n0 ≤ h0.size) (r0 : Addr) (p1 : Int32) (es y : Addr) (L : List Value) (F0 : (Fld Z h0 r0 "java/util/ArrayList" "elementData" "[Ljava/lang/Object;" (.ref es))) (B0 : own_RA Z h0 es L) (hj : ¬ p1 < 0) (hv : L[p1.toNatClampNeg]? = some (.ref y)) :
    own_M l (⟨"java/util/ArrayList", "elementData", "(I)Ljava/lang/Object;"⟩ : MethodName) jdk_38_method_18_code 2 (some (.object "java/lang/Object")) [] ({ frames := 0, cells := 0, slots := 0, locals := 0 } : Room) Z #[(.ref r0), (.int p1)] h0 (own_Q n0 h0 [] (own_P (.ref y) h0)) := by
  refine own_body (plainFor_of_name own_pn2) ?_
  intro p e s m below meth c T0 X0 hx hby hml hown hnm hret hlk hZ
  refine own_cast (own_ef19 m r0 p1) ?_
  refine own_st (f' := (mkF m 1 #[.val (.ref r0), .val (.int p1)] [(.ref r0)])) (fun t k => XS.aloadN X0.her hx rfl (hb hby d19_0) rfl rfl k) ?_
  refine own_getF X0 hx hZ hown (own_w45 hw) F0 (hb hby d19_1) ?_
  intro T48 X48
  refine own_st (f' := (mkF m 5 #[.val (.ref r0), .val (.int p1)] [(.int p1), (.ref es)])) (fun t k => XS.iloadN X48.her hx rfl (hb hby d19_4) rfl k) ?_
  refine own_rload (v := .ref y) X48 hx hZ B0 hj hv (hb hby d19_5) ?_
  refine own_retA X48 hx hret hlk rfl rfl (hb hby d19_6) (by first | decide | omega) (by first | decide | omega) ?_
  exact ⟨rfl, rfl⟩
theorem d18_0 : decode jdk_41_method_11_code 0 = .ok (.iload_n 0, 1) := by decide +kernel
theorem d18_1 : decode jdk_41_method_11_code 1 = .ok (.ifCond .lt 8, 3) := by decide +kernel
theorem d18_4 : decode jdk_41_method_11_code 4 = .ok (.iload_n 0, 1) := by decide +kernel
theorem d18_5 : decode jdk_41_method_11_code 5 = .ok (.iload_n 1, 1) := by decide +kernel
theorem d18_6 : decode jdk_41_method_11_code 6 = .ok (.if_icmp .lt 10, 3) := by decide +kernel
theorem d18_16 : decode jdk_41_method_11_code 16 = .ok (.iload_n 0, 1) := by decide +kernel
theorem d18_17 : decode jdk_41_method_11_code 17 = .ok (.ireturn, 1) := by decide +kernel
theorem own_ef18 (m : MethodId) (p0 : Int32) (p1 : Int32) : entryFrame m #[(.int p0), (.int p1), .null] 3 = mkF m 0 #[.val (.int p0), .val (.int p1), .val .null] [] := by first | (simp [entryFrame, mkF, argsToLocals, Value.category]; done) | rfl
set_option maxRecDepth 65536 in
set_option maxHeartbeats 40000000 in
theorem own_c18 (l : Launch) (Z : State) (a0 : Array Value) (hw : ∀ d ∈ tables_1, d.before a0 Z = true) (h0 : Heap) (n0 : Nat) (Z0 : n0 ≤ h0.size) (p0 : Int32) (p1 : Int32) (hj : ¬ p0 < 0) (hn : p0 < p1) :
    own_M l (⟨"jdk/internal/util/Preconditions", "checkIndex", "(IILjava/util/function/BiFunction;)I"⟩ : MethodName) jdk_41_method_11_code 3 (some .int) [] ({ frames := 0, cells := 0, slots := 0, locals := 0 } : Room) Z #[(.int p0), (.int p1), .null] h0 (own_Q n0 h0 [] (own_P (.int p0) h0)) := by
  refine own_body (plainFor_of_name own_pn4) ?_
  intro p e s m below meth c T0 X0 hx hby hml hown hnm hret hlk hZ
  refine own_cast (own_ef18 m p0 p1) ?_
  refine own_st (f' := (mkF m 1 #[.val (.int p0), .val (.int p1), .val .null] [(.int p0)])) (fun t k => XS.iloadN X0.her hx rfl (hb hby d18_0) rfl k) ?_
  refine own_st (f' := (mkF m 4 #[.val (.int p0), .val (.int p1), .val .null] [])) (fun t k => XS.ifNo X0.her hx rfl (hb hby d18_1) rfl ((if0 _ _).trans (flt (hj : ¬ (p0 < (0 : Int32)))).1) k) ?_
  refine own_st (f' := (mkF m 5 #[.val (.int p0), .val (.int p1), .val .null] [(.int p0)])) (fun t k => XS.iloadN X0.her hx rfl (hb hby d18_4) rfl k) ?_
  refine own_st (f' := (mkF m 6 #[.val (.int p0), .val (.int p1), .val .null] [(.int p1), (.int p0)])) (fun t k => XS.iloadN X0.her hx rfl (hb hby d18_5) rfl k) ?_
  refine own_st (f' := (mkF m 16 #[.val (.int p0), .val (.int p1), .val .null] [])) (fun t k => XS.icmpYes X0.her hx rfl (pc0 := 6) (pc' := 16) rfl (hb hby d18_6) rfl (tlt (hn : p0 < p1)).1 (by decide) (by decide) k) ?_
  refine own_st (f' := (mkF m 17 #[.val (.int p0), .val (.int p1), .val .null] [(.int p0)])) (fun t k => XS.iloadN X0.her hx rfl (hb hby d18_16) rfl k) ?_
  refine own_retI X0 hx hret hlk (hb hby d18_17) (by first | decide | omega) (by first | decide | omega) ?_
  exact ⟨rfl, rfl⟩
theorem d17_0 : decode jdk_31_method_17_code 0 = .ok (.iload_n 0, 1) := by decide +kernel
theorem d17_1 : decode jdk_31_method_17_code 1 = .ok (.iload_n 1, 1) := by decide +kernel
theorem d17_2 : decode jdk_31_method_17_code 2 = .ok (.aconst_null, 1) := by decide +kernel
theorem d17_3 : decode jdk_31_method_17_code 3 = .ok (.invokestatic 105, 3) := by decide +kernel
theorem d17_6 : decode jdk_31_method_17_code 6 = .ok (.ireturn, 1) := by decide +kernel
theorem own_ef17 (m : MethodId) (p0 : Int32) (p1 : Int32) : entryFrame m #[(.int p0), (.int p1)] 2 = mkF m 0 #[.val (.int p0), .val (.int p1)] [] := by first | (simp [entryFrame, mkF, argsToLocals, Value.category]; done) | rfl
set_option maxRecDepth 65536 in
set_option maxHeartbeats 40000000 in
theorem own_c17 (l : Launch) (Z : State) (a0 : Array Value) (hw : ∀ d ∈ tables_1, d.before a0 Z = true) (h0 : Heap) (n0 : Nat) (Z0 : n0 ≤ h0.size) (p0 : Int32) (p1 : Int32) (hj : ¬ p0 < 0) (hn : p0 < p1) :
    own_M l (⟨"java/util/Objects", "checkIndex", "(II)I"⟩ : MethodName) jdk_31_method_17_code 2 (some .int) [] ({ frames := 1, cells := 0, slots := 0, locals := 14 } : Room) Z #[(.int p0), (.int p1)] h0 (own_Q n0 h0 [] (own_P (.int p0) h0)) := by
  refine own_body (plainFor_of_name own_pn5) ?_
  intro p e s m below meth c T0 X0 hx hby hml hown hnm hret hlk hZ
  refine own_cast (own_ef17 m p0 p1) ?_
  refine own_st (f' := (mkF m 1 #[.val (.int p0), .val (.int p1)] [(.int p0)])) (fun t k => XS.iloadN X0.her hx rfl (hb hby d17_0) rfl k) ?_
  refine own_st (f' := (mkF m 2 #[.val (.int p0), .val (.int p1)] [(.int p1), (.int p0)])) (fun t k => XS.iloadN X0.her hx rfl (hb hby d17_1) rfl k) ?_
  refine own_st (f' := (mkF m 3 #[.val (.int p0), .val (.int p1)] [.null, (.int p1), (.int p0)])) (fun t k => XS.aconstNull X0.her hx rfl (hb hby d17_2) k) ?_
  refine own_callSP (y := (⟨"jdk/internal/util/Preconditions", "checkIndex", "(IILjava/util/function/BiFunction;)I"⟩ : MethodName)) (W := 0) [(.int p0), (.int p1), .null] X0 hx hZ hown (own_w109 hw) (own_w110 hw) (own_w111 hw) (own_w112 hw) (by decide) (own_c18 l Z a0 hw h0 n0 Z0 p0 p1 hj hn) (by decide) (by decide) (by decide) (by decide) (by rw [hml]; rfl) own_pd10 rfl rfl (Nat.le_of_eq rfl) (hb hby d17_3) ?_
  intro T49 X49
  show own_G p e below _ T49 (mkF m 6 #[.val (.int p0), .val (.int p1)] [(.int p0)])
  refine own_retI X49 hx hret hlk (hb hby d17_6) (by first | decide | omega) (by first | decide | omega) ?_
  exact ⟨rfl, rfl⟩
theorem d16_0 : decode jdk_38_method_20_code 0 = .ok (.iload_n 1, 1) := by decide +kernel
theorem d16_1 : decode jdk_38_method_20_code 1 = .ok (.aload_n 0, 1) := by decide +kernel
theorem d16_2 : decode jdk_38_method_20_code 2 = .ok (.getfield 48, 3) := by decide +kernel
theorem d16_5 : decode jdk_38_method_20_code 5 = .ok (.invokestatic 118, 3) := by decide +kernel
theorem d16_8 : decode jdk_38_method_20_code 8 = .ok (.pop, 1) := by decide +kernel
theorem d16_9 : decode jdk_38_method_20_code 9 = .ok (.aload_n 0, 1) := by decide +kernel
theorem d16_10 : decode jdk_38_method_20_code 10 = .ok (.iload_n 1, 1) := by decide +kernel
theorem d16_11 : decode jdk_38_method_20_code 11 = .ok (.invokevirtual 123, 3) := by decide +kernel
theorem d16_14 : decode jdk_38_method_20_code 14 = .ok (.areturn, 1) := by decide +kernel
theorem own_ef16 (m : MethodId) (r0 : Addr) (p1 : Int32) : entryFrame m #[(.ref r0), (.int p1)] 2 = mkF m 0 #[.val (.ref r0), .val (.int p1)] [] := by first | (simp [entryFrame, mkF, argsToLocals, Value.category]; done) | rfl
set_option maxRecDepth 65536 in
set_option maxHeartbeats 40000000 in
theorem own_c16 (l : Launch) (Z : State) (a0 : Array Value) (hw : ∀ d ∈ tables_1, d.before a0 Z = true) (h0 : Heap) (n0 : Nat) (Z0 : n0 ≤ h0.size) (r0 : Addr) (p1 : Int32) (w : Int32) (es y : Addr) (L : List Value) (E0 : (Exa Z h0 r0 "java/util/ArrayList")) (F1 : (Fld Z h0 r0 "java/util/ArrayList" "size" "I" (.int w))) (F0 : (Fld Z h0 r0 "java/util/ArrayList" "elementData" "[Ljava/lang/Object;" (.ref es))) (B0 : own_RA Z h0 es L) (hj : ¬ p1 < 0) (hv : L[p1.toNatClampNeg]? = some (.ref y)) (hn : p1 < w) :
    own_M l (⟨"java/util/ArrayList", "get", "(I)Ljava/lang/Object;"⟩ : MethodName) jdk_38_method_20_code 2 (some (.object "java/lang/Object")) [] ({ frames := 2, cells := 0, slots := 0, locals := 27 } : Room) Z #[(.ref r0), (.int p1)] h0 (own_Q n0 h0 [] (own_P (.ref y) h0)) := by
  refine own_body (plainFor_of_name own_pn2) ?_
  intro p e s m below meth c T0 X0 hx hby hml hown hnm hret hlk hZ
  refine own_cast (own_ef16 m r0 p1) ?_
  refine own_st (f' := (mkF m 1 #[.val (.ref r0), .val (.int p1)] [(.int p1)])) (fun t k => XS.iloadN X0.her hx rfl (hb hby d16_0) rfl k) ?_
  refine own_st (f' := (mkF m 2 #[.val (.ref r0), .val (.int p1)] [(.ref r0), (.int p1)])) (fun t k => XS.aloadN X0.her hx rfl (hb hby d16_1) rfl rfl k) ?_
  refine own_getF X0 hx hZ hown (own_w54 hw) F1 (hb hby d16_2) ?_
  intro T50 X50
  refine own_callSP (y := (⟨"java/util/Objects", "checkIndex", "(II)I"⟩ : MethodName)) (W := 0) [(.int p1), (.int w)] X50 hx hZ hown (own_w105 hw) (own_w106 hw) (own_w107 hw) (own_w108 hw) (by decide) (own_c17 l Z a0 hw h0 n0 Z0 p1 w hj hn) (by decide) (by decide) (by decide) (by decide) (by rw [hml]; rfl) own_pd0 rfl rfl (Nat.le_of_eq rfl) (hb hby d16_5) ?_
  intro T51 X51
  show own_G p e below _ T51 (mkF m 8 #[.val (.ref r0), .val (.int p1)] [(.int p1)])
  refine own_st (f' := (mkF m 9 #[.val (.ref r0), .val (.int p1)] [])) (fun t k => XS.pop X51.her hx rfl (hb hby d16_8) rfl rfl k) ?_
  refine own_st (f' := (mkF m 10 #[.val (.ref r0), .val (.int p1)] [(.ref r0)])) (fun t k => XS.aloadN X51.her hx rfl (hb hby d16_9) rfl rfl k) ?_
  refine own_st (f' := (mkF m 11 #[.val (.ref r0), .val (.int p1)] [(.int p1), (.ref r0)])) (fun t k => XS.iloadN X51.her hx rfl (hb hby d16_10) rfl k) ?_
  refine own_callVP (y := (⟨"java/util/ArrayList", "elementData", "(I)Ljava/lang/Object;"⟩ : MethodName)) (W := 0) [(.int p1)] X51 hx hZ hown (own_w113 hw) (own_w114 hw) (own_w116 hw) (own_w115 hw) (own_w25 hw) (own_w117 hw) (by decide) E0 (own_c19 l Z a0 hw h0 n0 Z0 r0 p1 es y L F0 B0 hj hv) (by decide) (by decide) (by decide) (by decide) (by rw [hml]; rfl) own_pd9 rfl rfl (Nat.le_of_eq rfl) (hb hby d16_11) ?_
  intro T52 X52
  show own_G p e below _ T52 (mkF m 14 #[.val (.ref r0), .val (.int p1)] [(.ref y)])
  refine own_retA X52 hx hret hlk rfl rfl (hb hby d16_14) (by first | decide | omega) (by first | decide | omega) ?_
  exact ⟨rfl, rfl⟩
theorem d20_0 : decode prog_111_method_4_code 0 = .ok (.aload_n 0, 1) := by decide +kernel
theorem d20_1 : decode prog_111_method_4_code 1 = .ok (.getfield 7, 3) := by decide +kernel
theorem d20_4 : decode prog_111_method_4_code 4 = .ok (.lreturn, 1) := by decide +kernel
theorem own_ef20 (m : MethodId) (r0 : Addr) : entryFrame m #[(.ref r0)] 1 = mkF m 0 #[.val (.ref r0)] [] := by first | (simp [entryFrame, mkF, argsToLocals, Value.category]; done) | rfl
set_option maxRecDepth 65536 in
set_option maxHeartbeats 40000000 in
theorem own_c20 (l : Launch) (Z : State) (a0 : Array Value) (hw : ∀ d ∈ tables_1, d.before a0 Z = true) (h0 : Heap) (n0 : Nat) (Z0 : n0 ≤ h0.size) (r0 : Addr) (w : Int64) (F0 : (Fld Z h0 r0 "com/example/bidwright/bidwright/market/Money" "cents" "J" (.long w))) :
    own_M l (⟨"com/example/bidwright/bidwright/market/Money", "toCents", "()J"⟩ : MethodName) prog_111_method_4_code 1 (some .long) [] ({ frames := 0, cells := 0, slots := 0, locals := 0 } : Room) Z #[(.ref r0)] h0 (own_Q n0 h0 [] (own_P (.long w) h0)) := by
  refine own_body (plainFor_of_name own_pn3) ?_
  intro p e s m below meth c T0 X0 hx hby hml hown hnm hret hlk hZ
  refine own_cast (own_ef20 m r0) ?_
  refine own_st (f' := (mkF m 1 #[.val (.ref r0)] [(.ref r0)])) (fun t k => XS.aloadN X0.her hx rfl (hb hby d20_0) rfl rfl k) ?_
  refine own_getF X0 hx hZ hown (own_w21 hw) F0 (hb hby d20_1) ?_
  intro T53 X53
  refine own_retL X53 hx hret hlk (hb hby d20_4) (by first | decide | omega) (by first | decide | omega) ?_
  exact ⟨rfl, rfl⟩
theorem d21_0 : decode jdk_29_method_25_code 0 = .ok (.lload_n 0, 1) := by decide +kernel
theorem d21_1 : decode jdk_29_method_25_code 1 = .ok (.lload_n 2, 1) := by decide +kernel
theorem d21_2 : decode jdk_29_method_25_code 2 = .ok (.ladd, 1) := by decide +kernel
theorem d21_3 : decode jdk_29_method_25_code 3 = .ok (.lstore 4, 2) := by decide +kernel
theorem d21_5 : decode jdk_29_method_25_code 5 = .ok (.lload_n 0, 1) := by decide +kernel
theorem d21_6 : decode jdk_29_method_25_code 6 = .ok (.lload 4, 2) := by decide +kernel
theorem d21_8 : decode jdk_29_method_25_code 8 = .ok (.lxor, 1) := by decide +kernel
theorem d21_9 : decode jdk_29_method_25_code 9 = .ok (.lload_n 2, 1) := by decide +kernel
theorem d21_10 : decode jdk_29_method_25_code 10 = .ok (.lload 4, 2) := by decide +kernel
theorem d21_12 : decode jdk_29_method_25_code 12 = .ok (.lxor, 1) := by decide +kernel
theorem d21_13 : decode jdk_29_method_25_code 13 = .ok (.land, 1) := by decide +kernel
theorem d21_14 : decode jdk_29_method_25_code 14 = .ok (.lconst 0, 1) := by decide +kernel
theorem d21_15 : decode jdk_29_method_25_code 15 = .ok (.lcmp, 1) := by decide +kernel
theorem d21_16 : decode jdk_29_method_25_code 16 = .ok (.ifCond .ge 13, 3) := by decide +kernel
theorem d21_29 : decode jdk_29_method_25_code 29 = .ok (.lload 4, 2) := by decide +kernel
theorem d21_31 : decode jdk_29_method_25_code 31 = .ok (.lreturn, 1) := by decide +kernel
theorem own_ef21 (m : MethodId) (q0 : Int64) (q1 : Int64) : entryFrame m #[(.long q0), (.long q1)] 6 = mkF m 0 #[.val (.long q0), .second, .val (.long q1), .second, .unset, .unset] [] := by first | (simp [entryFrame, mkF, argsToLocals, Value.category]; done) | rfl
set_option maxRecDepth 65536 in
set_option maxHeartbeats 40000000 in
theorem own_c21 (l : Launch) (Z : State) (a0 : Array Value) (hw : ∀ d ∈ tables_1, d.before a0 Z = true) (h0 : Heap) (n0 : Nat) (Z0 : n0 ≤ h0.size) (q0 : Int64) (q1 : Int64) (hov : ¬ ((q0 ^^^ (q0 + q1)) &&& (q1 ^^^ (q0 + q1))) < (0 : Int64)) :
    own_M l (⟨"java/lang/Math", "addExact", "(JJ)J"⟩ : MethodName) jdk_29_method_25_code 6 (some .long) [] ({ frames := 0, cells := 0, slots := 0, locals := 0 } : Room) Z #[(.long q0), (.long q1)] h0 (own_Q n0 h0 [] (own_P (.long (q0 + q1)) h0)) := by
  refine own_body (Jvm.Free.JP.mathPlain rfl (by decide +kernel)) ?_
  intro p e s m below meth c T0 X0 hx hby hml hown hnm hret hlk hZ
  refine own_cast (own_ef21 m q0 q1) ?_
  refine own_st (f' := (mkF m 1 #[.val (.long q0), .second, .val (.long q1), .second, .unset, .unset] [(.long q0)])) (fun t k => XS.lloadN X0.her hx rfl (hb hby d21_0) rfl k) ?_
  refine own_st (f' := (mkF m 2 #[.val (.long q0), .second, .val (.long q1), .second, .unset, .unset] [(.long q1), (.long q0)])) (fun t k => XS.lloadN X0.her hx rfl (hb hby d21_1) rfl k) ?_
  refine own_st (f' := (mkF m 3 #[.val (.long q0), .second, .val (.long q1), .second, .unset, .unset] [(.long (q0 + q1))])) (fun t k => XS.ladd X0.her hx rfl (hb hby d21_2) rfl k) ?_
  refine own_st (f' := (mkF m 5 #[.val (.long q0), .second, .val (.long q1), .second, .val (.long (q0 + q1)), .second] [])) (fun t k => XS.lstore X0.her hx rfl (hb hby d21_3) rfl (l' := #[.val (.long q0), .second, .val (.long q1), .second, .val (.long (q0 + q1)), .second]) rfl k) ?_
  refine own_st (f' := (mkF m 6 #[.val (.long q0), .second, .val (.long q1), .second, .val (.long (q0 + q1)), .second] [(.long q0)])) (fun t k => XS.lloadN X0.her hx rfl (hb hby d21_5) rfl k) ?_
  refine own_st (f' := (mkF m 8 #[.val (.long q0), .second, .val (.long q1), .second, .val (.long (q0 + q1)), .second] [(.long (q0 + q1)), (.long q0)])) (fun t k => XS.lload X0.her hx rfl (hb hby d21_6) rfl k) ?_
  refine own_st (f' := (mkF m 9 #[.val (.long q0), .second, .val (.long q1), .second, .val (.long (q0 + q1)), .second] [(.long (q0 ^^^ (q0 + q1)))])) (fun t k => XS.lxor X0.her hx rfl (hb hby d21_8) rfl k) ?_
  refine own_st (f' := (mkF m 10 #[.val (.long q0), .second, .val (.long q1), .second, .val (.long (q0 + q1)), .second] [(.long q1), (.long (q0 ^^^ (q0 + q1)))])) (fun t k => XS.lloadN X0.her hx rfl (hb hby d21_9) rfl k) ?_
  refine own_st (f' := (mkF m 12 #[.val (.long q0), .second, .val (.long q1), .second, .val (.long (q0 + q1)), .second] [(.long (q0 + q1)), (.long q1), (.long (q0 ^^^ (q0 + q1)))])) (fun t k => XS.lload X0.her hx rfl (hb hby d21_10) rfl k) ?_
  refine own_st (f' := (mkF m 13 #[.val (.long q0), .second, .val (.long q1), .second, .val (.long (q0 + q1)), .second] [(.long (q1 ^^^ (q0 + q1))), (.long (q0 ^^^ (q0 + q1)))])) (fun t k => XS.lxor X0.her hx rfl (hb hby d21_12) rfl k) ?_
  refine own_st (f' := (mkF m 14 #[.val (.long q0), .second, .val (.long q1), .second, .val (.long (q0 + q1)), .second] [(.long ((q0 ^^^ (q0 + q1)) &&& (q1 ^^^ (q0 + q1))))])) (fun t k => XS.land X0.her hx rfl (hb hby d21_13) rfl k) ?_
  refine own_st (f' := (mkF m 15 #[.val (.long q0), .second, .val (.long q1), .second, .val (.long (q0 + q1)), .second] [(.long (0 : Int64)), (.long ((q0 ^^^ (q0 + q1)) &&& (q1 ^^^ (q0 + q1))))])) (fun t k => XS.lconst X0.her hx rfl (hb hby d21_14) k) ?_
  refine own_st (f' := (mkF m 16 #[.val (.long q0), .second, .val (.long q1), .second, .val (.long (q0 + q1)), .second] [(.int (lcmpW ((q0 ^^^ (q0 + q1)) &&& (q1 ^^^ (q0 + q1))) (0 : Int64)))])) (fun t k => XS.lcmp X0.her hx rfl (hb hby d21_15) rfl k) ?_
  refine own_st (f' := (mkF m 29 #[.val (.long q0), .second, .val (.long q1), .second, .val (.long (q0 + q1)), .second] [])) (fun t k => XS.ifYes X0.her hx rfl (pc0 := 16) (pc' := 29) rfl (hb hby d21_16) rfl ((if0 _ _).trans (flt (fun q => hov ((lw_lt _ _).mp q) : ¬ ((lcmpW ((q0 ^^^ (q0 + q1)) &&& (q1 ^^^ (q0 + q1))) (0 : Int64)) < (0 : Int32)))).2.1) (by decide) (by decide) k) ?_
  refine own_st (f' := (mkF m 31 #[.val (.long q0), .second, .val (.long q1), .second, .val (.long (q0 + q1)), .second] [(.long (q0 + q1))])) (fun t k => XS.lload X0.her hx rfl (hb hby d21_29) rfl k) ?_
  refine own_retL X0 hx hret hlk (hb hby d21_31) (by first | decide | omega) (by first | decide | omega) ?_
  exact ⟨rfl, rfl⟩
theorem own_neg64 (z : Int64) : z < 0 ↔ z.toBitVec.msb = true := by
  have e : z.toInt = z.toBitVec.toInt := rfl
  rw [Int64.lt_iff_toInt_lt, BitVec.msb_eq_toInt, e]
  simp
/-- amounts of at most k times ten million -/
def own_am (k : Nat) (a : Int64) : Prop := 0 ≤ a.toInt ∧ a.toInt ≤ (k : Int) * 10000000
theorem own_am0 : own_am 0 (0 : Int64) := by unfold own_am; decide
theorem own_am_add {k : Nat} {a b : Int64} (hk : k ≤ 10) (h : own_am k a) (g : own_am 1 b) : own_am (k + 1) (a + b) := by
  unfold own_am at *
  rw [Jvm.Kit.i64_add (by omega) (by omega)]
  omega
theorem own_nov {k : Nat} {a b : Int64} (hk : k ≤ 10) (h : own_am k a) (g : own_am 1 b) : ¬ ((a ^^^ (a + b)) &&& (b ^^^ (a + b))) < (0 : Int64) := by
  have s := own_am_add hk h g
  have n : ∀ {j : Nat} {z : Int64}, own_am j z → z.toBitVec.msb = false := by
    intro j z q
    rcases hb : z.toBitVec.msb with _ | _
    · rfl
    · have := (own_neg64 z).mpr hb
      rw [Int64.lt_iff_toInt_lt, show (0 : Int64).toInt = 0 from rfl] at this
      have := q.1
      omega
  rw [own_neg64, Int64.toBitVec_and, Int64.toBitVec_xor, Int64.toBitVec_xor, BitVec.msb_and, BitVec.msb_xor, BitVec.msb_xor, n h, n g, n s]
  decide
theorem d14_0 : decode prog_52_method_4_code 0 = .ok (.aload_n 0, 1) := by decide +kernel
theorem d14_1 : decode prog_52_method_4_code 1 = .ok (.invokeinterface 61 1, 5) := by decide +kernel
theorem d14_6 : decode prog_52_method_4_code 6 = .ok (.iconst 1, 1) := by decide +kernel
theorem d14_7 : decode prog_52_method_4_code 7 = .ok (.iadd, 1) := by decide +kernel
theorem d14_8 : decode prog_52_method_4_code 8 = .ok (.newarray .long, 2) := by decide +kernel
theorem d14_10 : decode prog_52_method_4_code 10 = .ok (.astore_n 1, 1) := by decide +kernel
theorem d14_11 : decode prog_52_method_4_code 11 = .ok (.iconst 0, 1) := by decide +kernel
theorem d14_12 : decode prog_52_method_4_code 12 = .ok (.istore_n 2, 1) := by decide +kernel
theorem d14_13 : decode prog_52_method_4_code 13 = .ok (.iload_n 2, 1) := by decide +kernel
theorem d14_14 : decode prog_52_method_4_code 14 = .ok (.aload_n 0, 1) := by decide +kernel
theorem d14_15 : decode prog_52_method_4_code 15 = .ok (.invokeinterface 61 1, 5) := by decide +kernel
theorem d14_20 : decode prog_52_method_4_code 20 = .ok (.if_icmp .ge 33, 3) := by decide +kernel
theorem d14_53 : decode prog_52_method_4_code 53 = .ok (.aload_n 1, 1) := by decide +kernel
theorem d14_54 : decode prog_52_method_4_code 54 = .ok (.areturn, 1) := by decide +kernel
theorem own_ef_rt0 (m : MethodId) (r0 : Addr) : entryFrame m #[(.ref r0)] 3 = mkF m 0 #[.val (.ref r0), .unset, .unset] [] := by first | (simp [entryFrame, mkF, argsToLocals, Value.category]; done) | rfl
set_option maxRecDepth 65536 in
set_option maxHeartbeats 40000000 in
theorem own_rt0 (l : Launch) (Z : State) (a0 : Array Value) (hw : ∀ d ∈ tables_1, d.before a0 Z = true) (h0 : Heap) (n0 : Nat) (Z0 : n0 ≤ h0.size) (r0 : Addr)   (E0 : (Exa Z h0 r0 "java/util/ArrayList")) (F0s : (Fld Z h0 r0 "java/util/ArrayList" "size" "I" (.int (0 : Int32)))) :
    own_M l (⟨"com/example/bidwright/bidwright/allocation/Supply", "runningTotals", "(Ljava/util/List;)[J"⟩ : MethodName) prog_52_method_4_code 3 (some (.array .long)) [] ({ frames := 4, cells := 1, slots := 4, locals := 90 } : Room) Z #[(.ref r0)] h0 (own_Q n0 h0 [] (fun v h => ∃ b : Addr, v = some (.ref b) ∧ h0.size ≤ b ∧ ∃ La, own_LA Z h b La ∧ La.length = 1)) := by
  refine own_body (plainFor_of_name own_pn6) ?_
  intro p e s m below meth c T0 X0 hx hby hml hown hnm hret hlk hZ
  refine own_cast (own_ef_rt0 m r0) ?_
  refine own_st (f' := (mkF m 1 #[.val (.ref r0), .unset, .unset] [(.ref r0)])) (fun t k => XS.aloadN X0.her hx rfl (hb hby d14_0) rfl rfl k) ?_
  refine own_callIP (y := (⟨"java/util/ArrayList", "size", "()I"⟩ : MethodName)) (xi := (⟨"java/util/List", "size", "()I"⟩ : MethodName)) (W := 0) [] X0 hx hZ hown (own_w87 hw) (own_w88 hw) (own_w89 hw) (own_w90 hw) (own_w91 hw) (own_w92 hw) (own_w93 hw) (own_w94 hw) (own_w25 hw) (own_w95 hw) (by decide) (by first | rfl | decide) E0 (own_c15 l Z a0 hw h0 n0 Z0 r0 (0 : Int32) F0s) (by decide) (by decide) (by decide) (by decide) (by rw [hml]; rfl) own_pd8 rfl rfl (Nat.le_of_eq rfl) (hb hby d14_1) ?_
  intro T54 X54
  show own_G p e below _ T54 (mkF m 6 #[.val (.ref r0), .unset, .unset] [(.int (0 : Int32))])
  refine own_st (f' := (mkF m 7 #[.val (.ref r0), .unset, .unset] [(.int (1 : Int32)), (.int (0 : Int32))])) (fun t k => XS.iconst X54.her hx rfl (hb hby d14_6) k) ?_
  refine own_st (f' := (mkF m 8 #[.val (.ref r0), .unset, .unset] [(.int (1 : Int32))])) (fun t k => XS.iadd X54.her hx rfl (hb hby d14_7) rfl k) ?_
  refine own_newL (kk := 1) X54 hx hZ (own_w96 hw) (by decide) rfl (by decide) (by decide) (by decide) (hb hby d14_8) ?_
  intro T55 h55 b55 g55 q55 X55 E55 B55
  replace B55 : own_LA Z h55 b55 [(0 : Int64)] := B55
  have ne_r0_b55 : r0 ≠ b55 := Nat.ne_of_lt (Nat.lt_of_lt_of_le E0.lt (Nat.le_of_eq g55.symm))
  have A55_r0 := E0.ext E55
  have F55_r0_size := F0s.ext E55
  have ga_b55 : n0 ≤ b55 := Nat.le_trans Z0 q55
  have Zn55 : n0 ≤ h55.size := Nat.le_trans Z0 E55.1
  refine own_st (f' := (mkF m 11 #[.val (.ref r0), .val (.ref b55), .unset] [])) (fun t k => XS.astoreN X55.her hx rfl (hb hby d14_10) rfl rfl (l' := #[.val (.ref r0), .val (.ref b55), .unset]) rfl k) ?_
  refine own_st (f' := (mkF m 12 #[.val (.ref r0), .val (.ref b55), .unset] [(.int (0 : Int32))])) (fun t k => XS.iconst X55.her hx rfl (hb hby d14_11) k) ?_
  refine own_st (f' := (mkF m 13 #[.val (.ref r0), .val (.ref b55), .val (.int (0 : Int32))] [])) (fun t k => XS.istoreN X55.her hx rfl (hb hby d14_12) rfl (l' := #[.val (.ref r0), .val (.ref b55), .val (.int (0 : Int32))]) rfl k) ?_
  refine own_st (f' := (mkF m 14 #[.val (.ref r0), .val (.ref b55), .val (.int (0 : Int32))] [(.int (0 : Int32))])) (fun t k => XS.iloadN X55.her hx rfl (hb hby d14_13) rfl k) ?_
  refine own_st (f' := (mkF m 15 #[.val (.ref r0), .val (.ref b55), .val (.int (0 : Int32))] [(.ref r0), (.int (0 : Int32))])) (fun t k => XS.aloadN X55.her hx rfl (hb hby d14_14) rfl rfl k) ?_
  refine own_callIP (y := (⟨"java/util/ArrayList", "size", "()I"⟩ : MethodName)) (xi := (⟨"java/util/List", "size", "()I"⟩ : MethodName)) (W := 1) [] X55 hx hZ hown (own_w87 hw) (own_w88 hw) (own_w89 hw) (own_w90 hw) (own_w91 hw) (own_w92 hw) (own_w93 hw) (own_w94 hw) (own_w25 hw) (own_w95 hw) (by decide) (by first | rfl | decide) A55_r0 (own_c15 l Z a0 hw h55 n0 Zn55 r0 (0 : Int32) F55_r0_size) (by decide) (by decide) (by decide) (by decide) (by rw [hml]; rfl) own_pd8 rfl rfl (Nat.le_of_eq rfl) (hb hby d14_15) ?_
  intro T56 X56
  show own_G p e below _ T56 (mkF m 20 #[.val (.ref r0), .val (.ref b55), .val (.int (0 : Int32))] [(.int (0 : Int32)), (.int (0 : Int32))])
  refine own_st (f' := (mkF m 53 #[.val (.ref r0), .val (.ref b55), .val (.int (0 : Int32))] [])) (fun t k => XS.icmpYes X56.her hx rfl (pc0 := 20) (pc' := 53) rfl (hb hby d14_20) rfl (flt (by simp : ¬ ((0 : Int32) < (0 : Int32)))).2.1 (by decide) (by decide) k) ?_
  refine own_st (f' := (mkF m 54 #[.val (.ref r0), .val (.ref b55), .val (.int (0 : Int32))] [(.ref b55)])) (fun t k => XS.aloadN X56.her hx rfl (hb hby d14_53) rfl rfl k) ?_
  refine own_retA X56 hx hret hlk rfl rfl (hb hby d14_54) (by first | decide | omega) (by first | decide | omega) ?_
  exact ⟨b55, rfl, q55, _, B55, rfl⟩
theorem d14_23 : decode prog_52_method_4_code 23 = .ok (.aload_n 1, 1) := by decide +kernel
theorem d14_24 : decode prog_52_method_4_code 24 = .ok (.iload_n 2, 1) := by decide +kernel
theorem d14_25 : decode prog_52_method_4_code 25 = .ok (.iconst 1, 1) := by decide +kernel
theorem d14_26 : decode prog_52_method_4_code 26 = .ok (.iadd, 1) := by decide +kernel
theorem d14_27 : decode prog_52_method_4_code 27 = .ok (.aload_n 1, 1) := by decide +kernel
theorem d14_28 : decode prog_52_method_4_code 28 = .ok (.iload_n 2, 1) := by decide +kernel
theorem d14_29 : decode prog_52_method_4_code 29 = .ok (.laload, 1) := by decide +kernel
theorem d14_30 : decode prog_52_method_4_code 30 = .ok (.aload_n 0, 1) := by decide +kernel
theorem d14_31 : decode prog_52_method_4_code 31 = .ok (.iload_n 2, 1) := by decide +kernel
theorem d14_32 : decode prog_52_method_4_code 32 = .ok (.invokeinterface 96 2, 5) := by decide +kernel
theorem d14_37 : decode prog_52_method_4_code 37 = .ok (.checkcast 100, 3) := by decide +kernel
theorem d14_40 : decode prog_52_method_4_code 40 = .ok (.invokevirtual 102, 3) := by decide +kernel
theorem d14_43 : decode prog_52_method_4_code 43 = .ok (.invokestatic 106, 3) := by decide +kernel
theorem d14_46 : decode prog_52_method_4_code 46 = .ok (.lastore, 1) := by decide +kernel
theorem d14_47 : decode prog_52_method_4_code 47 = .ok (.iinc 2 1, 3) := by decide +kernel
theorem d14_50 : decode prog_52_method_4_code 50 = .ok (.goto (-37), 3) := by decide +kernel
theorem own_ef_rt1 (m : MethodId) (r0 : Addr) : entryFrame m #[(.ref r0)] 3 = mkF m 0 #[.val (.ref r0), .unset, .unset] [] := by first | (simp [entryFrame, mkF, argsToLocals, Value.category]; done) | rfl
set_option maxRecDepth 65536 in
set_option maxHeartbeats 40000000 in
theorem own_rt1 (l : Launch) (Z : State) (a0 : Array Value) (hw : ∀ d ∈ tables_1, d.before a0 Z = true) (h0 : Heap) (n0 : Nat) (Z0 : n0 ≤ h0.size) (r0 : Addr) (y0 : Addr) (c0 : Int64) (es : Addr) (E0 : (Exa Z h0 r0 "java/util/ArrayList")) (F0s : (Fld Z h0 r0 "java/util/ArrayList" "size" "I" (.int (1 : Int32)))) (F0e : (Fld Z h0 r0 "java/util/ArrayList" "elementData" "[Ljava/lang/Object;" (.ref es))) (BR : own_RA Z h0 es [(Value.ref y0), Value.null, Value.null, Value.null, Value.null, Value.null, Value.null, Value.null, Value.null, Value.null]) (Ey0 : (Exa Z h0 y0 "com/example/bidwright/bidwright/market/Money")) (Fy0 : (Fld Z h0 y0 "com/example/bidwright/bidwright/market/Money" "cents" "J" (.long c0))) (hm0 : own_am 1 c0) :
    own_M l (⟨"com/example/bidwright/bidwright/allocation/Supply", "runningTotals", "(Ljava/util/List;)[J"⟩ : MethodName) prog_52_method_4_code 3 (some (.array .long)) [] ({ frames := 4, cells := 1, slots := 4, locals := 90 } : Room) Z #[(.ref r0)] h0 (own_Q n0 h0 [] (fun v h => ∃ b : Addr, v = some (.ref b) ∧ h0.size ≤ b ∧ ∃ La, own_LA Z h b La ∧ La.length = 2)) := by
  refine own_body (plainFor_of_name own_pn6) ?_
  intro p e s m below meth c T0 X0 hx hby hml hown hnm hret hlk hZ
  refine own_cast (own_ef_rt1 m r0) ?_
  refine own_st (f' := (mkF m 1 #[.val (.ref r0), .unset, .unset] [(.ref r0)])) (fun t k => XS.aloadN X0.her hx rfl (hb hby d14_0) rfl rfl k) ?_
  refine own_callIP (y := (⟨"java/util/ArrayList", "size", "()I"⟩ : MethodName)) (xi := (⟨"java/util/List", "size", "()I"⟩ : MethodName)) (W := 0) [] X0 hx hZ hown (own_w87 hw) (own_w88 hw) (own_w89 hw) (own_w90 hw) (own_w91 hw) (own_w92 hw) (own_w93 hw) (own_w94 hw) (own_w25 hw) (own_w95 hw) (by decide) (by first | rfl | decide) E0 (own_c15 l Z a0 hw h0 n0 Z0 r0 (1 : Int32) F0s) (by decide) (by decide) (by decide) (by decide) (by rw [hml]; rfl) own_pd8 rfl rfl (Nat.le_of_eq rfl) (hb hby d14_1) ?_
  intro T57 X57
  show own_G p e below _ T57 (mkF m 6 #[.val (.ref r0), .unset, .unset] [(.int (1 : Int32))])
  refine own_st (f' := (mkF m 7 #[.val (.ref r0), .unset, .unset] [(.int (1 : Int32)), (.int (1 : Int32))])) (fun t k => XS.iconst X57.her hx rfl (hb hby d14_6) k) ?_
  refine own_st (f' := (mkF m 8 #[.val (.ref r0), .unset, .unset] [(.int (2 : Int32))])) (fun t k => XS.iadd X57.her hx rfl (hb hby d14_7) rfl k) ?_
  refine own_newL (kk := 2) X57 hx hZ (own_w96 hw) (by decide) rfl (by decide) (by decide) (by decide) (hb hby d14_8) ?_
  intro T58 h58 b58 g58 q58 X58 E58 B58
  replace B58 : own_LA Z h58 b58 [(0 : Int64), (0 : Int64)] := B58
  have ne_es_b58 : es ≠ b58 := Nat.ne_of_lt (Nat.lt_of_lt_of_le BR.lt (Nat.le_of_eq g58.symm))
  have B58_es := BR.ext E58
  have ne_r0_b58 : r0 ≠ b58 := Nat.ne_of_lt (Nat.lt_of_lt_of_le E0.lt (Nat.le_of_eq g58.symm))
  have A58_r0 := E0.ext E58
  have ne_y0_b58 : y0 ≠ b58 := Nat.ne_of_lt (Nat.lt_of_lt_of_le Ey0.lt (Nat.le_of_eq g58.symm))
  have A58_y0 := Ey0.ext E58
  have F58_r0_size := F0s.ext E58
  have F58_r0_elementData := F0e.ext E58
  have F58_y0_cents := Fy0.ext E58
  have ga_b58 : n0 ≤ b58 := Nat.le_trans Z0 q58
  have Zn58 : n0 ≤ h58.size := Nat.le_trans Z0 E58.1
  refine own_st (f' := (mkF m 11 #[.val (.ref r0), .val (.ref b58), .unset] [])) (fun t k => XS.astoreN X58.her hx rfl (hb hby d14_10) rfl rfl (l' := #[.val (.ref r0), .val (.ref b58), .unset]) rfl k) ?_
  refine own_st (f' := (mkF m 12 #[.val (.ref r0), .val (.ref b58), .unset] [(.int (0 : Int32))])) (fun t k => XS.iconst X58.her hx rfl (hb hby d14_11) k) ?_
  refine own_st (f' := (mkF m 13 #[.val (.ref r0), .val (.ref b58), .val (.int (0 : Int32))] [])) (fun t k => XS.istoreN X58.her hx rfl (hb hby d14_12) rfl (l' := #[.val (.ref r0), .val (.ref b58), .val (.int (0 : Int32))]) rfl k) ?_
  refine own_st (f' := (mkF m 14 #[.val (.ref r0), .val (.ref b58), .val (.int (0 : Int32))] [(.int (0 : Int32))])) (fun t k => XS.iloadN X58.her hx rfl (hb hby d14_13) rfl k) ?_
  refine own_st (f' := (mkF m 15 #[.val (.ref r0), .val (.ref b58), .val (.int (0 : Int32))] [(.ref r0), (.int (0 : Int32))])) (fun t k => XS.aloadN X58.her hx rfl (hb hby d14_14) rfl rfl k) ?_
  refine own_callIP (y := (⟨"java/util/ArrayList", "size", "()I"⟩ : MethodName)) (xi := (⟨"java/util/List", "size", "()I"⟩ : MethodName)) (W := 1) [] X58 hx hZ hown (own_w87 hw) (own_w88 hw) (own_w89 hw) (own_w90 hw) (own_w91 hw) (own_w92 hw) (own_w93 hw) (own_w94 hw) (own_w25 hw) (own_w95 hw) (by decide) (by first | rfl | decide) A58_r0 (own_c15 l Z a0 hw h58 n0 Zn58 r0 (1 : Int32) F58_r0_size) (by decide) (by decide) (by decide) (by decide) (by rw [hml]; rfl) own_pd8 rfl rfl (Nat.le_of_eq rfl) (hb hby d14_15) ?_
  intro T59 X59
  show own_G p e below _ T59 (mkF m 20 #[.val (.ref r0), .val (.ref b58), .val (.int (0 : Int32))] [(.int (1 : Int32)), (.int (0 : Int32))])
  refine own_st (f' := (mkF m 23 #[.val (.ref r0), .val (.ref b58), .val (.int (0 : Int32))] [])) (fun t k => XS.icmpNo X59.her hx rfl (hb hby d14_20) rfl (tlt (by decide : (0 : Int32) < (1 : Int32))).2.1 k) ?_
  refine own_st (f' := (mkF m 24 #[.val (.ref r0), .val (.ref b58), .val (.int (0 : Int32))] [(.ref b58)])) (fun t k => XS.aloadN X59.her hx rfl (hb hby d14_23) rfl rfl k) ?_
  refine own_st (f' := (mkF m 25 #[.val (.ref r0), .val (.ref b58), .val (.int (0 : Int32))] [(.int (0 : Int32)), (.ref b58)])) (fun t k => XS.iloadN X59.her hx rfl (hb hby d14_24) rfl k) ?_
  refine own_st (f' := (mkF m 26 #[.val (.ref r0), .val (.ref b58), .val (.int (0 : Int32))] [(.int (1 : Int32)), (.int (0 : Int32)), (.ref b58)])) (fun t k => XS.iconst X59.her hx rfl (hb hby d14_25) k) ?_
  refine own_st (f' := (mkF m 27 #[.val (.ref r0), .val (.ref b58), .val (.int (0 : Int32))] [(.int (1 : Int32)), (.ref b58)])) (fun t k => XS.iadd X59.her hx rfl (hb hby d14_26) rfl k) ?_
  refine own_st (f' := (mkF m 28 #[.val (.ref r0), .val (.ref b58), .val (.int (0 : Int32))] [(.ref b58), (.int (1 : Int32)), (.ref b58)])) (fun t k => XS.aloadN X59.her hx rfl (hb hby d14_27) rfl rfl k) ?_
  refine own_st (f' := (mkF m 29 #[.val (.ref r0), .val (.ref b58), .val (.int (0 : Int32))] [(.int (0 : Int32)), (.ref b58), (.int (1 : Int32)), (.ref b58)])) (fun t k => XS.iloadN X59.her hx rfl (hb hby d14_28) rfl k) ?_
  refine own_lload (v := (0 : Int64)) X59 hx hZ B58 (by decide) rfl (hb hby d14_29) ?_
  refine own_st (f' := (mkF m 31 #[.val (.ref r0), .val (.ref b58), .val (.int (0 : Int32))] [(.ref r0), (.long (0 : Int64)), (.int (1 : Int32)), (.ref b58)])) (fun t k => XS.aloadN X59.her hx rfl (hb hby d14_30) rfl rfl k) ?_
  refine own_st (f' := (mkF m 32 #[.val (.ref r0), .val (.ref b58), .val (.int (0 : Int32))] [(.int (0 : Int32)), (.ref r0), (.long (0 : Int64)), (.int (1 : Int32)), (.ref b58)])) (fun t k => XS.iloadN X59.her hx rfl (hb hby d14_31) rfl k) ?_
  refine own_callIP (y := (⟨"java/util/ArrayList", "get", "(I)Ljava/lang/Object;"⟩ : MethodName)) (xi := (⟨"java/util/List", "get", "(I)Ljava/lang/Object;"⟩ : MethodName)) (W := 4) [(.int (0 : Int32))] X59 hx hZ hown (own_w97 hw) (own_w98 hw) (own_w99 hw) (own_w100 hw) (own_w101 hw) (own_w102 hw) (own_w103 hw) (own_w94 hw) (own_w25 hw) (own_w104 hw) (by decide) (by first | rfl | decide) A58_r0 (own_c16 l Z a0 hw h58 n0 Zn58 r0 (0 : Int32) (1 : Int32) es y0 _ A58_r0 F58_r0_size F58_r0_elementData B58_es (by decide) rfl (by decide)) (by decide) (by decide) (by decide) (by decide) (by rw [hml]; rfl) own_pd9 rfl rfl (Nat.le_of_eq rfl) (hb hby d14_32) ?_
  intro T60 X60
  show own_G p e below _ T60 (mkF m 37 #[.val (.ref r0), .val (.ref b58), .val (.int (0 : Int32))] [(.ref y0), (.long (0 : Int64)), (.int (1 : Int32)), (.ref b58)])
  refine own_chk X60 hx hZ hown (own_w118 hw) A58_y0 (hb hby d14_37) ?_
  intro T61 X61
  refine own_callVP (y := (⟨"com/example/bidwright/bidwright/market/Money", "toCents", "()J"⟩ : MethodName)) (W := 4) [] X61 hx hZ hown (own_w120 hw) (own_w121 hw) (own_w123 hw) (own_w122 hw) (own_w11 hw) (own_w124 hw) (by decide) A58_y0 (own_c20 l Z a0 hw h58 n0 Zn58 y0 c0 F58_y0_cents) (by decide) (by decide) (by decide) (by decide) (by rw [hml]; rfl) own_pd11 rfl rfl (Nat.le_of_eq rfl) (hb hby d14_40) ?_
  intro T62 X62
  show own_G p e below _ T62 (mkF m 43 #[.val (.ref r0), .val (.ref b58), .val (.int (0 : Int32))] [(.long c0), (.long (0 : Int64)), (.int (1 : Int32)), (.ref b58)])
  refine own_callSP (y := (⟨"java/lang/Math", "addExact", "(JJ)J"⟩ : MethodName)) (W := 2) [(.long (0 : Int64)), (.long c0)] X62 hx hZ hown (own_w125 hw) (own_w126 hw) (own_w2 hw) (own_w127 hw) (by decide) (own_c21 l Z a0 hw h58 n0 Zn58 (0 : Int64) c0 (own_nov (k := 0) (by decide) own_am0 hm0)) (by decide) (by decide) (by decide) (by decide) (by rw [hml]; rfl) own_pd12 rfl rfl (Nat.le_of_eq rfl) (hb hby d14_43) ?_
  intro T63 X63
  show own_G p e below _ T63 (mkF m 46 #[.val (.ref r0), .val (.ref b58), .val (.int (0 : Int32))] [(.long ((0 : Int64) + c0)), (.int (1 : Int32)), (.ref b58)])
  refine own_lstore X63 hx hZ B58 (by decide) (by show 1 < 2; decide) (hb hby d14_46) ga_b58 (Or.inr q58) ?_
  intro T64 h64 X64 K64 B64
  replace B64 : own_LA Z h64 b58 [(0 : Int64), ((0 : Int64) + c0)] := B64
  have B64_es := B58_es.keep K64 (ninS ne_es_b58 nin0)
  have F64_r0_size := F58_r0_size.keep K64 (ninS ne_r0_b58 nin0)
  have F64_r0_elementData := F58_r0_elementData.keep K64 (ninS ne_r0_b58 nin0)
  have F64_y0_cents := F58_y0_cents.keep K64 (ninS ne_y0_b58 nin0)
  have A64_r0 := A58_r0.keep K64
  have A64_y0 := A58_y0.keep K64
  have Zn64 : n0 ≤ h64.size := Nat.le_trans Zn58 K64.1
  refine own_st (f' := (mkF m 50 #[.val (.ref r0), .val (.ref b58), .val (.int (1 : Int32))] [])) (fun t k => XS.iinc X64.her hx rfl (hb hby d14_47) rfl (l' := #[.val (.ref r0), .val (.ref b58), .val (.int (1 : Int32))]) rfl k) ?_
  refine own_st (f' := (mkF m 13 #[.val (.ref r0), .val (.ref b58), .val (.int (1 : Int32))] [])) (fun t k => XS.goto X64.her hx rfl (pc0 := 50) (pc' := 13) rfl (hb hby d14_50) (by decide) (by decide) k) ?_
  refine own_st (f' := (mkF m 14 #[.val (.ref r0), .val (.ref b58), .val (.int (1 : Int32))] [(.int (1 : Int32))])) (fun t k => XS.iloadN X64.her hx rfl (hb hby d14_13) rfl k) ?_
  refine own_st (f' := (mkF m 15 #[.val (.ref r0), .val (.ref b58), .val (.int (1 : Int32))] [(.ref r0), (.int (1 : Int32))])) (fun t k => XS.aloadN X64.her hx rfl (hb hby d14_14) rfl rfl k) ?_
  refine own_callIP (y := (⟨"java/util/ArrayList", "size", "()I"⟩ : MethodName)) (xi := (⟨"java/util/List", "size", "()I"⟩ : MethodName)) (W := 1) [] X64 hx hZ hown (own_w87 hw) (own_w88 hw) (own_w89 hw) (own_w90 hw) (own_w91 hw) (own_w92 hw) (own_w93 hw) (own_w94 hw) (own_w25 hw) (own_w95 hw) (by decide) (by first | rfl | decide) A64_r0 (own_c15 l Z a0 hw h64 n0 Zn64 r0 (1 : Int32) F64_r0_size) (by decide) (by decide) (by decide) (by decide) (by rw [hml]; rfl) own_pd8 rfl rfl (Nat.le_of_eq rfl) (hb hby d14_15) ?_
  intro T65 X65
  show own_G p e below _ T65 (mkF m 20 #[.val (.ref r0), .val (.ref b58), .val (.int (1 : Int32))] [(.int (1 : Int32)), (.int (1 : Int32))])
  refine own_st (f' := (mkF m 53 #[.val (.ref r0), .val (.ref b58), .val (.int (1 : Int32))] [])) (fun t k => XS.icmpYes X65.her hx rfl (pc0 := 20) (pc' := 53) rfl (hb hby d14_20) rfl (flt (by simp : ¬ ((1 : Int32) < (1 : Int32)))).2.1 (by decide) (by decide) k) ?_
  refine own_st (f' := (mkF m 54 #[.val (.ref r0), .val (.ref b58), .val (.int (1 : Int32))] [(.ref b58)])) (fun t k => XS.aloadN X65.her hx rfl (hb hby d14_53) rfl rfl k) ?_
  refine own_retA X65 hx hret hlk rfl rfl (hb hby d14_54) (by first | decide | omega) (by first | decide | omega) ?_
  exact ⟨b58, rfl, q58, _, B64, rfl⟩
theorem own_ef_rt2 (m : MethodId) (r0 : Addr) : entryFrame m #[(.ref r0)] 3 = mkF m 0 #[.val (.ref r0), .unset, .unset] [] := by first | (simp [entryFrame, mkF, argsToLocals, Value.category]; done) | rfl
set_option maxRecDepth 65536 in
set_option maxHeartbeats 40000000 in
theorem own_rt2 (l : Launch) (Z : State) (a0 : Array Value) (hw : ∀ d ∈ tables_1, d.before a0 Z = true) (h0 : Heap) (n0 : Nat) (Z0 : n0 ≤ h0.size) (r0 : Addr) (y0 : Addr) (y1 : Addr) (c0 : Int64) (c1 : Int64) (es : Addr) (E0 : (Exa Z h0 r0 "java/util/ArrayList")) (F0s : (Fld Z h0 r0 "java/util/ArrayList" "size" "I" (.int (2 : Int32)))) (F0e : (Fld Z h0 r0 "java/util/ArrayList" "elementData" "[Ljava/lang/Object;" (.ref es))) (BR : own_RA Z h0 es [(Value.ref y0), (Value.ref y1), Value.null, Value.null, Value.null, Value.null, Value.null, Value.null, Value.null, Value.null]) (Ey0 : (Exa Z h0 y0 "com/example/bidwright/bidwright/market/Money")) (Fy0 : (Fld Z h0 y0 "com/example/bidwright/bidwright/market/Money" "cents" "J" (.long c0))) (hm0 : own_am 1 c0) (Ey1 : (Exa Z h0 y1 "com/example/bidwright/bidwright/market/Money")) (Fy1 : (Fld Z h0 y1 "com/example/bidwright/bidwright/market/Money" "cents" "J" (.long c1))) (hm1 : own_am 1 c1) :
    own_M l (⟨"com/example/bidwright/bidwright/allocation/Supply", "runningTotals", "(Ljava/util/List;)[J"⟩ : MethodName) prog_52_method_4_code 3 (some (.array .long)) [] ({ frames := 4, cells := 1, slots := 4, locals := 90 } : Room) Z #[(.ref r0)] h0 (own_Q n0 h0 [] (fun v h => ∃ b : Addr, v = some (.ref b) ∧ h0.size ≤ b ∧ ∃ La, own_LA Z h b La ∧ La.length = 3)) := by
  refine own_body (plainFor_of_name own_pn6) ?_
  intro p e s m below meth c T0 X0 hx hby hml hown hnm hret hlk hZ
  refine own_cast (own_ef_rt2 m r0) ?_
  refine own_st (f' := (mkF m 1 #[.val (.ref r0), .unset, .unset] [(.ref r0)])) (fun t k => XS.aloadN X0.her hx rfl (hb hby d14_0) rfl rfl k) ?_
  refine own_callIP (y := (⟨"java/util/ArrayList", "size", "()I"⟩ : MethodName)) (xi := (⟨"java/util/List", "size", "()I"⟩ : MethodName)) (W := 0) [] X0 hx hZ hown (own_w87 hw) (own_w88 hw) (own_w89 hw) (own_w90 hw) (own_w91 hw) (own_w92 hw) (own_w93 hw) (own_w94 hw) (own_w25 hw) (own_w95 hw) (by decide) (by first | rfl | decide) E0 (own_c15 l Z a0 hw h0 n0 Z0 r0 (2 : Int32) F0s) (by decide) (by decide) (by decide) (by decide) (by rw [hml]; rfl) own_pd8 rfl rfl (Nat.le_of_eq rfl) (hb hby d14_1) ?_
  intro T66 X66
  show own_G p e below _ T66 (mkF m 6 #[.val (.ref r0), .unset, .unset] [(.int (2 : Int32))])
  refine own_st (f' := (mkF m 7 #[.val (.ref r0), .unset, .unset] [(.int (1 : Int32)), (.int (2 : Int32))])) (fun t k => XS.iconst X66.her hx rfl (hb hby d14_6) k) ?_
  refine own_st (f' := (mkF m 8 #[.val (.ref r0), .unset, .unset] [(.int (3 : Int32))])) (fun t k => XS.iadd X66.her hx rfl (hb hby d14_7) rfl k) ?_
  refine own_newL (kk := 3) X66 hx hZ (own_w96 hw) (by decide) rfl (by decide) (by decide) (by decide) (hb hby d14_8) ?_
  intro T67 h67 b67 g67 q67 X67 E67 B67
  replace B67 : own_LA Z h67 b67 [(0 : Int64), (0 : Int64), (0 : Int64)] := B67
  have ne_es_b67 : es ≠ b67 := Nat.ne_of_lt (Nat.lt_of_lt_of_le BR.lt (Nat.le_of_eq g67.symm))
  have B67_es := BR.ext E67
  have ne_r0_b67 : r0 ≠ b67 := Nat.ne_of_lt (Nat.lt_of_lt_of_le E0.lt (Nat.le_of_eq g67.symm))
  have A67_r0 := E0.ext E67
  have ne_y0_b67 : y0 ≠ b67 := Nat.ne_of_lt (Nat.lt_of_lt_of_le Ey0.lt (Nat.le_of_eq g67.symm))
  have A67_y0 := Ey0.ext E67
  have ne_y1_b67 : y1 ≠ b67 := Nat.ne_of_lt (Nat.lt_of_lt_of_le Ey1.lt (Nat.le_of_eq g67.symm))
  have A67_y1 := Ey1.ext E67
  have F67_r0_size := F0s.ext E67
  have F67_r0_elementData := F0e.ext E67
  have F67_y0_cents := Fy0.ext E67
  have F67_y1_cents := Fy1.ext E67
  have ga_b67 : n0 ≤ b67 := Nat.le_trans Z0 q67
  have Zn67 : n0 ≤ h67.size := Nat.le_trans Z0 E67.1
  refine own_st (f' := (mkF m 11 #[.val (.ref r0), .val (.ref b67), .unset] [])) (fun t k => XS.astoreN X67.her hx rfl (hb hby d14_10) rfl rfl (l' := #[.val (.ref r0), .val (.ref b67), .unset]) rfl k) ?_
  refine own_st (f' := (mkF m 12 #[.val (.ref r0), .val (.ref b67), .unset] [(.int (0 : Int32))])) (fun t k => XS.iconst X67.her hx rfl (hb hby d14_11) k) ?_
  refine own_st (f' := (mkF m 13 #[.val (.ref r0), .val (.ref b67), .val (.int (0 : Int32))] [])) (fun t k => XS.istoreN X67.her hx rfl (hb hby d14_12) rfl (l' := #[.val (.ref r0), .val (.ref b67), .val (.int (0 : Int32))]) rfl k) ?_
  refine own_st (f' := (mkF m 14 #[.val (.ref r0), .val (.ref b67), .val (.int (0 : Int32))] [(.int (0 : Int32))])) (fun t k => XS.iloadN X67.her hx rfl (hb hby d14_13) rfl k) ?_
  refine own_st (f' := (mkF m 15 #[.val (.ref r0), .val (.ref b67), .val (.int (0 : Int32))] [(.ref r0), (.int (0 : Int32))])) (fun t k => XS.aloadN X67.her hx rfl (hb hby d14_14) rfl rfl k) ?_
  refine own_callIP (y := (⟨"java/util/ArrayList", "size", "()I"⟩ : MethodName)) (xi := (⟨"java/util/List", "size", "()I"⟩ : MethodName)) (W := 1) [] X67 hx hZ hown (own_w87 hw) (own_w88 hw) (own_w89 hw) (own_w90 hw) (own_w91 hw) (own_w92 hw) (own_w93 hw) (own_w94 hw) (own_w25 hw) (own_w95 hw) (by decide) (by first | rfl | decide) A67_r0 (own_c15 l Z a0 hw h67 n0 Zn67 r0 (2 : Int32) F67_r0_size) (by decide) (by decide) (by decide) (by decide) (by rw [hml]; rfl) own_pd8 rfl rfl (Nat.le_of_eq rfl) (hb hby d14_15) ?_
  intro T68 X68
  show own_G p e below _ T68 (mkF m 20 #[.val (.ref r0), .val (.ref b67), .val (.int (0 : Int32))] [(.int (2 : Int32)), (.int (0 : Int32))])
  refine own_st (f' := (mkF m 23 #[.val (.ref r0), .val (.ref b67), .val (.int (0 : Int32))] [])) (fun t k => XS.icmpNo X68.her hx rfl (hb hby d14_20) rfl (tlt (by decide : (0 : Int32) < (2 : Int32))).2.1 k) ?_
  refine own_st (f' := (mkF m 24 #[.val (.ref r0), .val (.ref b67), .val (.int (0 : Int32))] [(.ref b67)])) (fun t k => XS.aloadN X68.her hx rfl (hb hby d14_23) rfl rfl k) ?_
  refine own_st (f' := (mkF m 25 #[.val (.ref r0), .val (.ref b67), .val (.int (0 : Int32))] [(.int (0 : Int32)), (.ref b67)])) (fun t k => XS.iloadN X68.her hx rfl (hb hby d14_24) rfl k) ?_
  refine own_st (f' := (mkF m 26 #[.val (.ref r0), .val (.ref b67), .val (.int (0 : Int32))] [(.int (1 : Int32)), (.int (0 : Int32)), (.ref b67)])) (fun t k => XS.iconst X68.her hx rfl (hb hby d14_25) k) ?_
  refine own_st (f' := (mkF m 27 #[.val (.ref r0), .val (.ref b67), .val (.int (0 : Int32))] [(.int (1 : Int32)), (.ref b67)])) (fun t k => XS.iadd X68.her hx rfl (hb hby d14_26) rfl k) ?_
  refine own_st (f' := (mkF m 28 #[.val (.ref r0), .val (.ref b67), .val (.int (0 : Int32))] [(.ref b67), (.int (1 : Int32)), (.ref b67)])) (fun t k => XS.aloadN X68.her hx rfl (hb hby d14_27) rfl rfl k) ?_
  refine own_st (f' := (mkF m 29 #[.val (.ref r0), .val (.ref b67), .val (.int (0 : Int32))] [(.int (0 : Int32)), (.ref b67), (.int (1 : Int32)), (.ref b67)])) (fun t k => XS.iloadN X68.her hx rfl (hb hby d14_28) rfl k) ?_
  refine own_lload (v := (0 : Int64)) X68 hx hZ B67 (by decide) rfl (hb hby d14_29) ?_
  refine own_st (f' := (mkF m 31 #[.val (.ref r0), .val (.ref b67), .val (.int (0 : Int32))] [(.ref r0), (.long (0 : Int64)), (.int (1 : Int32)), (.ref b67)])) (fun t k => XS.aloadN X68.her hx rfl (hb hby d14_30) rfl rfl k) ?_
  refine own_st (f' := (mkF m 32 #[.val (.ref r0), .val (.ref b67), .val (.int (0 : Int32))] [(.int (0 : Int32)), (.ref r0), (.long (0 : Int64)), (.int (1 : Int32)), (.ref b67)])) (fun t k => XS.iloadN X68.her hx rfl (hb hby d14_31) rfl k) ?_
  refine own_callIP (y := (⟨"java/util/ArrayList", "get", "(I)Ljava/lang/Object;"⟩ : MethodName)) (xi := (⟨"java/util/List", "get", "(I)Ljava/lang/Object;"⟩ : MethodName)) (W := 4) [(.int (0 : Int32))] X68 hx hZ hown (own_w97 hw) (own_w98 hw) (own_w99 hw) (own_w100 hw) (own_w101 hw) (own_w102 hw) (own_w103 hw) (own_w94 hw) (own_w25 hw) (own_w104 hw) (by decide) (by first | rfl | decide) A67_r0 (own_c16 l Z a0 hw h67 n0 Zn67 r0 (0 : Int32) (2 : Int32) es y0 _ A67_r0 F67_r0_size F67_r0_elementData B67_es (by decide) rfl (by decide)) (by decide) (by decide) (by decide) (by decide) (by rw [hml]; rfl) own_pd9 rfl rfl (Nat.le_of_eq rfl) (hb hby d14_32) ?_
  intro T69 X69
  show own_G p e below _ T69 (mkF m 37 #[.val (.ref r0), .val (.ref b67), .val (.int (0 : Int32))] [(.ref y0), (.long (0 : Int64)), (.int (1 : Int32)), (.ref b67)])
  refine own_chk X69 hx hZ hown (own_w118 hw) A67_y0 (hb hby d14_37) ?_
  intro T70 X70
  refine own_callVP (y := (⟨"com/example/bidwright/bidwright/market/Money", "toCents", "()J"⟩ : MethodName)) (W := 4) [] X70 hx hZ hown (own_w120 hw) (own_w121 hw) (own_w123 hw) (own_w122 hw) (own_w11 hw) (own_w124 hw) (by decide) A67_y0 (own_c20 l Z a0 hw h67 n0 Zn67 y0 c0 F67_y0_cents) (by decide) (by decide) (by decide) (by decide) (by rw [hml]; rfl) own_pd11 rfl rfl (Nat.le_of_eq rfl) (hb hby d14_40) ?_
  intro T71 X71
  show own_G p e below _ T71 (mkF m 43 #[.val (.ref r0), .val (.ref b67), .val (.int (0 : Int32))] [(.long c0), (.long (0 : Int64)), (.int (1 : Int32)), (.ref b67)])
  refine own_callSP (y := (⟨"java/lang/Math", "addExact", "(JJ)J"⟩ : MethodName)) (W := 2) [(.long (0 : Int64)), (.long c0)] X71 hx hZ hown (own_w125 hw) (own_w126 hw) (own_w2 hw) (own_w127 hw) (by decide) (own_c21 l Z a0 hw h67 n0 Zn67 (0 : Int64) c0 (own_nov (k := 0) (by decide) own_am0 hm0)) (by decide) (by decide) (by decide) (by decide) (by rw [hml]; rfl) own_pd12 rfl rfl (Nat.le_of_eq rfl) (hb hby d14_43) ?_
  intro T72 X72
  show own_G p e below _ T72 (mkF m 46 #[.val (.ref r0), .val (.ref b67), .val (.int (0 : Int32))] [(.long ((0 : Int64) + c0)), (.int (1 : Int32)), (.ref b67)])
  refine own_lstore X72 hx hZ B67 (by decide) (by show 1 < 3; decide) (hb hby d14_46) ga_b67 (Or.inr q67) ?_
  intro T73 h73 X73 K73 B73
  replace B73 : own_LA Z h73 b67 [(0 : Int64), ((0 : Int64) + c0), (0 : Int64)] := B73
  have B73_es := B67_es.keep K73 (ninS ne_es_b67 nin0)
  have F73_r0_size := F67_r0_size.keep K73 (ninS ne_r0_b67 nin0)
  have F73_r0_elementData := F67_r0_elementData.keep K73 (ninS ne_r0_b67 nin0)
  have F73_y0_cents := F67_y0_cents.keep K73 (ninS ne_y0_b67 nin0)
  have F73_y1_cents := F67_y1_cents.keep K73 (ninS ne_y1_b67 nin0)
  have A73_r0 := A67_r0.keep K73
  have A73_y0 := A67_y0.keep K73
  have A73_y1 := A67_y1.keep K73
  have Zn73 : n0 ≤ h73.size := Nat.le_trans Zn67 K73.1
  refine own_st (f' := (mkF m 50 #[.val (.ref r0), .val (.ref b67), .val (.int (1 : Int32))] [])) (fun t k => XS.iinc X73.her hx rfl (hb hby d14_47) rfl (l' := #[.val (.ref r0), .val (.ref b67), .val (.int (1 : Int32))]) rfl k) ?_
  refine own_st (f' := (mkF m 13 #[.val (.ref r0), .val (.ref b67), .val (.int (1 : Int32))] [])) (fun t k => XS.goto X73.her hx rfl (pc0 := 50) (pc' := 13) rfl (hb hby d14_50) (by decide) (by decide) k) ?_
  refine own_st (f' := (mkF m 14 #[.val (.ref r0), .val (.ref b67), .val (.int (1 : Int32))] [(.int (1 : Int32))])) (fun t k => XS.iloadN X73.her hx rfl (hb hby d14_13) rfl k) ?_
  refine own_st (f' := (mkF m 15 #[.val (.ref r0), .val (.ref b67), .val (.int (1 : Int32))] [(.ref r0), (.int (1 : Int32))])) (fun t k => XS.aloadN X73.her hx rfl (hb hby d14_14) rfl rfl k) ?_
  refine own_callIP (y := (⟨"java/util/ArrayList", "size", "()I"⟩ : MethodName)) (xi := (⟨"java/util/List", "size", "()I"⟩ : MethodName)) (W := 1) [] X73 hx hZ hown (own_w87 hw) (own_w88 hw) (own_w89 hw) (own_w90 hw) (own_w91 hw) (own_w92 hw) (own_w93 hw) (own_w94 hw) (own_w25 hw) (own_w95 hw) (by decide) (by first | rfl | decide) A73_r0 (own_c15 l Z a0 hw h73 n0 Zn73 r0 (2 : Int32) F73_r0_size) (by decide) (by decide) (by decide) (by decide) (by rw [hml]; rfl) own_pd8 rfl rfl (Nat.le_of_eq rfl) (hb hby d14_15) ?_
  intro T74 X74
  show own_G p e below _ T74 (mkF m 20 #[.val (.ref r0), .val (.ref b67), .val (.int (1 : Int32))] [(.int (2 : Int32)), (.int (1 : Int32))])
  refine own_st (f' := (mkF m 23 #[.val (.ref r0), .val (.ref b67), .val (.int (1 : Int32))] [])) (fun t k => XS.icmpNo X74.her hx rfl (hb hby d14_20) rfl (tlt (by decide : (1 : Int32) < (2 : Int32))).2.1 k) ?_
  refine own_st (f' := (mkF m 24 #[.val (.ref r0), .val (.ref b67), .val (.int (1 : Int32))] [(.ref b67)])) (fun t k => XS.aloadN X74.her hx rfl (hb hby d14_23) rfl rfl k) ?_
  refine own_st (f' := (mkF m 25 #[.val (.ref r0), .val (.ref b67), .val (.int (1 : Int32))] [(.int (1 : Int32)), (.ref b67)])) (fun t k => XS.iloadN X74.her hx rfl (hb hby d14_24) rfl k) ?_
  refine own_st (f' := (mkF m 26 #[.val (.ref r0), .val (.ref b67), .val (.int (1 : Int32))] [(.int (1 : Int32)), (.int (1 : Int32)), (.ref b67)])) (fun t k => XS.iconst X74.her hx rfl (hb hby d14_25) k) ?_
  refine own_st (f' := (mkF m 27 #[.val (.ref r0), .val (.ref b67), .val (.int (1 : Int32))] [(.int (2 : Int32)), (.ref b67)])) (fun t k => XS.iadd X74.her hx rfl (hb hby d14_26) rfl k) ?_
  refine own_st (f' := (mkF m 28 #[.val (.ref r0), .val (.ref b67), .val (.int (1 : Int32))] [(.ref b67), (.int (2 : Int32)), (.ref b67)])) (fun t k => XS.aloadN X74.her hx rfl (hb hby d14_27) rfl rfl k) ?_
  refine own_st (f' := (mkF m 29 #[.val (.ref r0), .val (.ref b67), .val (.int (1 : Int32))] [(.int (1 : Int32)), (.ref b67), (.int (2 : Int32)), (.ref b67)])) (fun t k => XS.iloadN X74.her hx rfl (hb hby d14_28) rfl k) ?_
  refine own_lload (v := ((0 : Int64) + c0)) X74 hx hZ B73 (by decide) rfl (hb hby d14_29) ?_
  refine own_st (f' := (mkF m 31 #[.val (.ref r0), .val (.ref b67), .val (.int (1 : Int32))] [(.ref r0), (.long ((0 : Int64) + c0)), (.int (2 : Int32)), (.ref b67)])) (fun t k => XS.aloadN X74.her hx rfl (hb hby d14_30) rfl rfl k) ?_
  refine own_st (f' := (mkF m 32 #[.val (.ref r0), .val (.ref b67), .val (.int (1 : Int32))] [(.int (1 : Int32)), (.ref r0), (.long ((0 : Int64) + c0)), (.int (2 : Int32)), (.ref b67)])) (fun t k => XS.iloadN X74.her hx rfl (hb hby d14_31) rfl k) ?_
  refine own_callIP (y := (⟨"java/util/ArrayList", "get", "(I)Ljava/lang/Object;"⟩ : MethodName)) (xi := (⟨"java/util/List", "get", "(I)Ljava/lang/Object;"⟩ : MethodName)) (W := 4) [(.int (1 : Int32))] X74 hx hZ hown (own_w97 hw) (own_w98 hw) (own_w99 hw) (own_w100 hw) (own_w101 hw) (own_w102 hw) (own_w103 hw) (own_w94 hw) (own_w25 hw) (own_w104 hw) (by decide) (by first | rfl | decide) A73_r0 (own_c16 l Z a0 hw h73 n0 Zn73 r0 (1 : Int32) (2 : Int32) es y1 _ A73_r0 F73_r0_size F73_r0_elementData B73_es (by decide) rfl (by decide)) (by decide) (by decide) (by decide) (by decide) (by rw [hml]; rfl) own_pd9 rfl rfl (Nat.le_of_eq rfl) (hb hby d14_32) ?_
  intro T75 X75
  show own_G p e below _ T75 (mkF m 37 #[.val (.ref r0), .val (.ref b67), .val (.int (1 : Int32))] [(.ref y1), (.long ((0 : Int64) + c0)), (.int (2 : Int32)), (.ref b67)])
  refine own_chk X75 hx hZ hown (own_w118 hw) A73_y1 (hb hby d14_37) ?_
  intro T76 X76
  refine own_callVP (y := (⟨"com/example/bidwright/bidwright/market/Money", "toCents", "()J"⟩ : MethodName)) (W := 4) [] X76 hx hZ hown (own_w120 hw) (own_w121 hw) (own_w123 hw) (own_w122 hw) (own_w11 hw) (own_w124 hw) (by decide) A73_y1 (own_c20 l Z a0 hw h73 n0 Zn73 y1 c1 F73_y1_cents) (by decide) (by decide) (by decide) (by decide) (by rw [hml]; rfl) own_pd11 rfl rfl (Nat.le_of_eq rfl) (hb hby d14_40) ?_
  intro T77 X77
  show own_G p e below _ T77 (mkF m 43 #[.val (.ref r0), .val (.ref b67), .val (.int (1 : Int32))] [(.long c1), (.long ((0 : Int64) + c0)), (.int (2 : Int32)), (.ref b67)])
  refine own_callSP (y := (⟨"java/lang/Math", "addExact", "(JJ)J"⟩ : MethodName)) (W := 2) [(.long ((0 : Int64) + c0)), (.long c1)] X77 hx hZ hown (own_w125 hw) (own_w126 hw) (own_w2 hw) (own_w127 hw) (by decide) (own_c21 l Z a0 hw h73 n0 Zn73 ((0 : Int64) + c0) c1 (own_nov (k := 1) (by decide) (own_am_add (by decide) own_am0 hm0) hm1)) (by decide) (by decide) (by decide) (by decide) (by rw [hml]; rfl) own_pd12 rfl rfl (Nat.le_of_eq rfl) (hb hby d14_43) ?_
  intro T78 X78
  show own_G p e below _ T78 (mkF m 46 #[.val (.ref r0), .val (.ref b67), .val (.int (1 : Int32))] [(.long (((0 : Int64) + c0) + c1)), (.int (2 : Int32)), (.ref b67)])
  refine own_lstore X78 hx hZ B73 (by decide) (by show 2 < 3; decide) (hb hby d14_46) ga_b67 (Or.inr q67) ?_
  intro T79 h79 X79 K79 B79
  replace B79 : own_LA Z h79 b67 [(0 : Int64), ((0 : Int64) + c0), (((0 : Int64) + c0) + c1)] := B79
  have B79_es := B73_es.keep K79 (ninS ne_es_b67 nin0)
  have F79_r0_size := F73_r0_size.keep K79 (ninS ne_r0_b67 nin0)
  have F79_r0_elementData := F73_r0_elementData.keep K79 (ninS ne_r0_b67 nin0)
  have F79_y0_cents := F73_y0_cents.keep K79 (ninS ne_y0_b67 nin0)
  have F79_y1_cents := F73_y1_cents.keep K79 (ninS ne_y1_b67 nin0)
  have A79_r0 := A73_r0.keep K79
  have A79_y0 := A73_y0.keep K79
  have A79_y1 := A73_y1.keep K79
  have Zn79 : n0 ≤ h79.size := Nat.le_trans Zn73 K79.1
  refine own_st (f' := (mkF m 50 #[.val (.ref r0), .val (.ref b67), .val (.int (2 : Int32))] [])) (fun t k => XS.iinc X79.her hx rfl (hb hby d14_47) rfl (l' := #[.val (.ref r0), .val (.ref b67), .val (.int (2 : Int32))]) rfl k) ?_
  refine own_st (f' := (mkF m 13 #[.val (.ref r0), .val (.ref b67), .val (.int (2 : Int32))] [])) (fun t k => XS.goto X79.her hx rfl (pc0 := 50) (pc' := 13) rfl (hb hby d14_50) (by decide) (by decide) k) ?_
  refine own_st (f' := (mkF m 14 #[.val (.ref r0), .val (.ref b67), .val (.int (2 : Int32))] [(.int (2 : Int32))])) (fun t k => XS.iloadN X79.her hx rfl (hb hby d14_13) rfl k) ?_
  refine own_st (f' := (mkF m 15 #[.val (.ref r0), .val (.ref b67), .val (.int (2 : Int32))] [(.ref r0), (.int (2 : Int32))])) (fun t k => XS.aloadN X79.her hx rfl (hb hby d14_14) rfl rfl k) ?_
  refine own_callIP (y := (⟨"java/util/ArrayList", "size", "()I"⟩ : MethodName)) (xi := (⟨"java/util/List", "size", "()I"⟩ : MethodName)) (W := 1) [] X79 hx hZ hown (own_w87 hw) (own_w88 hw) (own_w89 hw) (own_w90 hw) (own_w91 hw) (own_w92 hw) (own_w93 hw) (own_w94 hw) (own_w25 hw) (own_w95 hw) (by decide) (by first | rfl | decide) A79_r0 (own_c15 l Z a0 hw h79 n0 Zn79 r0 (2 : Int32) F79_r0_size) (by decide) (by decide) (by decide) (by decide) (by rw [hml]; rfl) own_pd8 rfl rfl (Nat.le_of_eq rfl) (hb hby d14_15) ?_
  intro T80 X80
  show own_G p e below _ T80 (mkF m 20 #[.val (.ref r0), .val (.ref b67), .val (.int (2 : Int32))] [(.int (2 : Int32)), (.int (2 : Int32))])
  refine own_st (f' := (mkF m 53 #[.val (.ref r0), .val (.ref b67), .val (.int (2 : Int32))] [])) (fun t k => XS.icmpYes X80.her hx rfl (pc0 := 20) (pc' := 53) rfl (hb hby d14_20) rfl (flt (by simp : ¬ ((2 : Int32) < (2 : Int32)))).2.1 (by decide) (by decide) k) ?_
  refine own_st (f' := (mkF m 54 #[.val (.ref r0), .val (.ref b67), .val (.int (2 : Int32))] [(.ref b67)])) (fun t k => XS.aloadN X80.her hx rfl (hb hby d14_53) rfl rfl k) ?_
  refine own_retA X80 hx hret hlk rfl rfl (hb hby d14_54) (by first | decide | omega) (by first | decide | omega) ?_
  exact ⟨b67, rfl, q67, _, B79, rfl⟩
theorem own_ef_rt3 (m : MethodId) (r0 : Addr) : entryFrame m #[(.ref r0)] 3 = mkF m 0 #[.val (.ref r0), .unset, .unset] [] := by first | (simp [entryFrame, mkF, argsToLocals, Value.category]; done) | rfl
set_option maxRecDepth 65536 in
set_option maxHeartbeats 40000000 in
theorem own_rt3 (l : Launch) (Z : State) (a0 : Array Value) (hw : ∀ d ∈ tables_1, d.before a0 Z = true) (h0 : Heap) (n0 : Nat) (Z0 : n0 ≤ h0.size) (r0 : Addr) (y0 : Addr) (y1 : Addr) (y2 : Addr) (c0 : Int64) (c1 : Int64) (c2 : Int64) (es : Addr) (E0 : (Exa Z h0 r0 "java/util/ArrayList")) (F0s : (Fld Z h0 r0 "java/util/ArrayList" "size" "I" (.int (3 : Int32)))) (F0e : (Fld Z h0 r0 "java/util/ArrayList" "elementData" "[Ljava/lang/Object;" (.ref es))) (BR : own_RA Z h0 es [(Value.ref y0), (Value.ref y1), (Value.ref y2), Value.null, Value.null, Value.null, Value.null, Value.null, Value.null, Value.null]) (Ey0 : (Exa Z h0 y0 "com/example/bidwright/bidwright/market/Money")) (Fy0 : (Fld Z h0 y0 "com/example/bidwright/bidwright/market/Money" "cents" "J" (.long c0))) (hm0 : own_am 1 c0) (Ey1 : (Exa Z h0 y1 "com/example/bidwright/bidwright/market/Money")) (Fy1 : (Fld Z h0 y1 "com/example/bidwright/bidwright/market/Money" "cents" "J" (.long c1))) (hm1 : own_am 1 c1) (Ey2 : (Exa Z h0 y2 "com/example/bidwright/bidwright/market/Money")) (Fy2 : (Fld Z h0 y2 "com/example/bidwright/bidwright/market/Money" "cents" "J" (.long c2))) (hm2 : own_am 1 c2) :
    own_M l (⟨"com/example/bidwright/bidwright/allocation/Supply", "runningTotals", "(Ljava/util/List;)[J"⟩ : MethodName) prog_52_method_4_code 3 (some (.array .long)) [] ({ frames := 4, cells := 1, slots := 4, locals := 90 } : Room) Z #[(.ref r0)] h0 (own_Q n0 h0 [] (fun v h => ∃ b : Addr, v = some (.ref b) ∧ h0.size ≤ b ∧ ∃ La, own_LA Z h b La ∧ La.length = 4)) := by
  refine own_body (plainFor_of_name own_pn6) ?_
  intro p e s m below meth c T0 X0 hx hby hml hown hnm hret hlk hZ
  refine own_cast (own_ef_rt3 m r0) ?_
  refine own_st (f' := (mkF m 1 #[.val (.ref r0), .unset, .unset] [(.ref r0)])) (fun t k => XS.aloadN X0.her hx rfl (hb hby d14_0) rfl rfl k) ?_
  refine own_callIP (y := (⟨"java/util/ArrayList", "size", "()I"⟩ : MethodName)) (xi := (⟨"java/util/List", "size", "()I"⟩ : MethodName)) (W := 0) [] X0 hx hZ hown (own_w87 hw) (own_w88 hw) (own_w89 hw) (own_w90 hw) (own_w91 hw) (own_w92 hw) (own_w93 hw) (own_w94 hw) (own_w25 hw) (own_w95 hw) (by decide) (by first | rfl | decide) E0 (own_c15 l Z a0 hw h0 n0 Z0 r0 (3 : Int32) F0s) (by decide) (by decide) (by decide) (by decide) (by rw [hml]; rfl) own_pd8 rfl rfl (Nat.le_of_eq rfl) (hb hby d14_1) ?_
  intro T81 X81
  show own_G p e below _ T81 (mkF m 6 #[.val (.ref r0), .unset, .unset] [(.int (3 : Int32))])
  refine own_st (f' := (mkF m 7 #[.val (.ref r0), .unset, .unset] [(.int (1 : Int32)), (.int (3 : Int32))])) (fun t k => XS.iconst X81.her hx rfl (hb hby d14_6) k) ?_
  refine own_st (f' := (mkF m 8 #[.val (.ref r0), .unset, .unset] [(.int (4 : Int32))])) (fun t k => XS.iadd X81.her hx rfl (hb hby d14_7) rfl k) ?_
  refine own_newL (kk := 4) X81 hx hZ (own_w96 hw) (by decide) rfl (by decide) (by decide) (by decide) (hb hby d14_8) ?_
  intro T82 h82 b82 g82 q82 X82 E82 B82
  replace B82 : own_LA Z h82 b82 [(0 : Int64), (0 : Int64), (0 : Int64), (0 : Int64)] := B82
  have ne_es_b82 : es ≠ b82 := Nat.ne_of_lt (Nat.lt_of_lt_of_le BR.lt (Nat.le_of_eq g82.symm))
  have B82_es := BR.ext E82
  have ne_r0_b82 : r0 ≠ b82 := Nat.ne_of_lt (Nat.lt_of_lt_of_le E0.lt (Nat.le_of_eq g82.symm))
  have A82_r0 := E0.ext E82
  have ne_y0_b82 : y0 ≠ b82 := Nat.ne_of_lt (Nat.lt_of_lt_of_le Ey0.lt (Nat.le_of_eq g82.symm))
  have A82_y0 := Ey0.ext E82
  have ne_y1_b82 : y1 ≠ b82 := Nat.ne_of_lt (Nat.lt_of_lt_of_le Ey1.lt (Nat.le_of_eq g82.symm))
  have A82_y1 := Ey1.ext E82
  have ne_y2_b82 : y2 ≠ b82 := Nat.ne_of_lt (Nat.lt_of_lt_of_le Ey2.lt (Nat.le_of_eq g82.symm))
  have A82_y2 := Ey2.ext E82
  have F82_r0_size := F0s.ext E82
  have F82_r0_elementData := F0e.ext E82
  have F82_y0_cents := Fy0.ext E82
  have F82_y1_cents := Fy1.ext E82
  have F82_y2_cents := Fy2.ext E82
  have ga_b82 : n0 ≤ b82 := Nat.le_trans Z0 q82
  have Zn82 : n0 ≤ h82.size := Nat.le_trans Z0 E82.1
  refine own_st (f' := (mkF m 11 #[.val (.ref r0), .val (.ref b82), .unset] [])) (fun t k => XS.astoreN X82.her hx rfl (hb hby d14_10) rfl rfl (l' := #[.val (.ref r0), .val (.ref b82), .unset]) rfl k) ?_
  refine own_st (f' := (mkF m 12 #[.val (.ref r0), .val (.ref b82), .unset] [(.int (0 : Int32))])) (fun t k => XS.iconst X82.her hx rfl (hb hby d14_11) k) ?_
  refine own_st (f' := (mkF m 13 #[.val (.ref r0), .val (.ref b82), .val (.int (0 : Int32))] [])) (fun t k => XS.istoreN X82.her hx rfl (hb hby d14_12) rfl (l' := #[.val (.ref r0), .val (.ref b82), .val (.int (0 : Int32))]) rfl k) ?_
  refine own_st (f' := (mkF m 14 #[.val (.ref r0), .val (.ref b82), .val (.int (0 : Int32))] [(.int (0 : Int32))])) (fun t k => XS.iloadN X82.her hx rfl (hb hby d14_13) rfl k) ?_
  refine own_st (f' := (mkF m 15 #[.val (.ref r0), .val (.ref b82), .val (.int (0 : Int32))] [(.ref r0), (.int (0 : Int32))])) (fun t k => XS.aloadN X82.her hx rfl (hb hby d14_14) rfl rfl k) ?_
  refine own_callIP (y := (⟨"java/util/ArrayList", "size", "()I"⟩ : MethodName)) (xi := (⟨"java/util/List", "size", "()I"⟩ : MethodName)) (W := 1) [] X82 hx hZ hown (own_w87 hw) (own_w88 hw) (own_w89 hw) (own_w90 hw) (own_w91 hw) (own_w92 hw) (own_w93 hw) (own_w94 hw) (own_w25 hw) (own_w95 hw) (by decide) (by first | rfl | decide) A82_r0 (own_c15 l Z a0 hw h82 n0 Zn82 r0 (3 : Int32) F82_r0_size) (by decide) (by decide) (by decide) (by decide) (by rw [hml]; rfl) own_pd8 rfl rfl (Nat.le_of_eq rfl) (hb hby d14_15) ?_
  intro T83 X83
  show own_G p e below _ T83 (mkF m 20 #[.val (.ref r0), .val (.ref b82), .val (.int (0 : Int32))] [(.int (3 : Int32)), (.int (0 : Int32))])
  refine own_st (f' := (mkF m 23 #[.val (.ref r0), .val (.ref b82), .val (.int (0 : Int32))] [])) (fun t k => XS.icmpNo X83.her hx rfl (hb hby d14_20) rfl (tlt (by decide : (0 : Int32) < (3 : Int32))).2.1 k) ?_
  refine own_st (f' := (mkF m 24 #[.val (.ref r0), .val (.ref b82), .val (.int (0 : Int32))] [(.ref b82)])) (fun t k => XS.aloadN X83.her hx rfl (hb hby d14_23) rfl rfl k) ?_
  refine own_st (f' := (mkF m 25 #[.val (.ref r0), .val (.ref b82), .val (.int (0 : Int32))] [(.int (0 : Int32)), (.ref b82)])) (fun t k => XS.iloadN X83.her hx rfl (hb hby d14_24) rfl k) ?_
  refine own_st (f' := (mkF m 26 #[.val (.ref r0), .val (.ref b82), .val (.int (0 : Int32))] [(.int (1 : Int32)), (.int (0 : Int32)), (.ref b82)])) (fun t k => XS.iconst X83.her hx rfl (hb hby d14_25) k) ?_
  refine own_st (f' := (mkF m 27 #[.val (.ref r0), .val (.ref b82), .val (.int (0 : Int32))] [(.int (1 : Int32)), (.ref b82)])) (fun t k => XS.iadd X83.her hx rfl (hb hby d14_26) rfl k) ?_
  refine own_st (f' := (mkF m 28 #[.val (.ref r0), .val (.ref b82), .val (.int (0 : Int32))] [(.ref b82), (.int (1 : Int32)), (.ref b82)])) (fun t k => XS.aloadN X83.her hx rfl (hb hby d14_27) rfl rfl k) ?_
  refine own_st (f' := (mkF m 29 #[.val (.ref r0), .val (.ref b82), .val (.int (0 : Int32))] [(.int (0 : Int32)), (.ref b82), (.int (1 : Int32)), (.ref b82)])) (fun t k => XS.iloadN X83.her hx rfl (hb hby d14_28) rfl k) ?_
  refine own_lload (v := (0 : Int64)) X83 hx hZ B82 (by decide) rfl (hb hby d14_29) ?_
  refine own_st (f' := (mkF m 31 #[.val (.ref r0), .val (.ref b82), .val (.int (0 : Int32))] [(.ref r0), (.long (0 : Int64)), (.int (1 : Int32)), (.ref b82)])) (fun t k => XS.aloadN X83.her hx rfl (hb hby d14_30) rfl rfl k) ?_
  refine own_st (f' := (mkF m 32 #[.val (.ref r0), .val (.ref b82), .val (.int (0 : Int32))] [(.int (0 : Int32)), (.ref r0), (.long (0 : Int64)), (.int (1 : Int32)), (.ref b82)])) (fun t k => XS.iloadN X83.her hx rfl (hb hby d14_31) rfl k) ?_
  refine own_callIP (y := (⟨"java/util/ArrayList", "get", "(I)Ljava/lang/Object;"⟩ : MethodName)) (xi := (⟨"java/util/List", "get", "(I)Ljava/lang/Object;"⟩ : MethodName)) (W := 4) [(.int (0 : Int32))] X83 hx hZ hown (own_w97 hw) (own_w98 hw) (own_w99 hw) (own_w100 hw) (own_w101 hw) (own_w102 hw) (own_w103 hw) (own_w94 hw) (own_w25 hw) (own_w104 hw) (by decide) (by first | rfl | decide) A82_r0 (own_c16 l Z a0 hw h82 n0 Zn82 r0 (0 : Int32) (3 : Int32) es y0 _ A82_r0 F82_r0_size F82_r0_elementData B82_es (by decide) rfl (by decide)) (by decide) (by decide) (by decide) (by decide) (by rw [hml]; rfl) own_pd9 rfl rfl (Nat.le_of_eq rfl) (hb hby d14_32) ?_
  intro T84 X84
  show own_G p e below _ T84 (mkF m 37 #[.val (.ref r0), .val (.ref b82), .val (.int (0 : Int32))] [(.ref y0), (.long (0 : Int64)), (.int (1 : Int32)), (.ref b82)])
  refine own_chk X84 hx hZ hown (own_w118 hw) A82_y0 (hb hby d14_37) ?_
  intro T85 X85
  refine own_callVP (y := (⟨"com/example/bidwright/bidwright/market/Money", "toCents", "()J"⟩ : MethodName)) (W := 4) [] X85 hx hZ hown (own_w120 hw) (own_w121 hw) (own_w123 hw) (own_w122 hw) (own_w11 hw) (own_w124 hw) (by decide) A82_y0 (own_c20 l Z a0 hw h82 n0 Zn82 y0 c0 F82_y0_cents) (by decide) (by decide) (by decide) (by decide) (by rw [hml]; rfl) own_pd11 rfl rfl (Nat.le_of_eq rfl) (hb hby d14_40) ?_
  intro T86 X86
  show own_G p e below _ T86 (mkF m 43 #[.val (.ref r0), .val (.ref b82), .val (.int (0 : Int32))] [(.long c0), (.long (0 : Int64)), (.int (1 : Int32)), (.ref b82)])
  refine own_callSP (y := (⟨"java/lang/Math", "addExact", "(JJ)J"⟩ : MethodName)) (W := 2) [(.long (0 : Int64)), (.long c0)] X86 hx hZ hown (own_w125 hw) (own_w126 hw) (own_w2 hw) (own_w127 hw) (by decide) (own_c21 l Z a0 hw h82 n0 Zn82 (0 : Int64) c0 (own_nov (k := 0) (by decide) own_am0 hm0)) (by decide) (by decide) (by decide) (by decide) (by rw [hml]; rfl) own_pd12 rfl rfl (Nat.le_of_eq rfl) (hb hby d14_43) ?_
  intro T87 X87
  show own_G p e below _ T87 (mkF m 46 #[.val (.ref r0), .val (.ref b82), .val (.int (0 : Int32))] [(.long ((0 : Int64) + c0)), (.int (1 : Int32)), (.ref b82)])
  refine own_lstore X87 hx hZ B82 (by decide) (by show 1 < 4; decide) (hb hby d14_46) ga_b82 (Or.inr q82) ?_
  intro T88 h88 X88 K88 B88
  replace B88 : own_LA Z h88 b82 [(0 : Int64), ((0 : Int64) + c0), (0 : Int64), (0 : Int64)] := B88
  have B88_es := B82_es.keep K88 (ninS ne_es_b82 nin0)
  have F88_r0_size := F82_r0_size.keep K88 (ninS ne_r0_b82 nin0)
  have F88_r0_elementData := F82_r0_elementData.keep K88 (ninS ne_r0_b82 nin0)
  have F88_y0_cents := F82_y0_cents.keep K88 (ninS ne_y0_b82 nin0)
  have F88_y1_cents := F82_y1_cents.keep K88 (ninS ne_y1_b82 nin0)
  have F88_y2_cents := F82_y2_cents.keep K88 (ninS ne_y2_b82 nin0)
  have A88_r0 := A82_r0.keep K88
  have A88_y0 := A82_y0.keep K88
  have A88_y1 := A82_y1.keep K88
  have A88_y2 := A82_y2.keep K88
  have Zn88 : n0 ≤ h88.size := Nat.le_trans Zn82 K88.1
  refine own_st (f' := (mkF m 50 #[.val (.ref r0), .val (.ref b82), .val (.int (1 : Int32))] [])) (fun t k => XS.iinc X88.her hx rfl (hb hby d14_47) rfl (l' := #[.val (.ref r0), .val (.ref b82), .val (.int (1 : Int32))]) rfl k) ?_
  refine own_st (f' := (mkF m 13 #[.val (.ref r0), .val (.ref b82), .val (.int (1 : Int32))] [])) (fun t k => XS.goto X88.her hx rfl (pc0 := 50) (pc' := 13) rfl (hb hby d14_50) (by decide) (by decide) k) ?_
  refine own_st (f' := (mkF m 14 #[.val (.ref r0), .val (.ref b82), .val (.int (1 : Int32))] [(.int (1 : Int32))])) (fun t k => XS.iloadN X88.her hx rfl (hb hby d14_13) rfl k) ?_
  refine own_st (f' := (mkF m 15 #[.val (.ref r0), .val (.ref b82), .val (.int (1 : Int32))] [(.ref r0), (.int (1 : Int32))])) (fun t k => XS.aloadN X88.her hx rfl (hb hby d14_14) rfl rfl k) ?_
  refine own_callIP (y := (⟨"java/util/ArrayList", "size", "()I"⟩ : MethodName)) (xi := (⟨"java/util/List", "size", "()I"⟩ : MethodName)) (W := 1) [] X88 hx hZ hown (own_w87 hw) (own_w88 hw) (own_w89 hw) (own_w90 hw) (own_w91 hw) (own_w92 hw) (own_w93 hw) (own_w94 hw) (own_w25 hw) (own_w95 hw) (by decide) (by first | rfl | decide) A88_r0 (own_c15 l Z a0 hw h88 n0 Zn88 r0 (3 : Int32) F88_r0_size) (by decide) (by decide) (by decide) (by decide) (by rw [hml]; rfl) own_pd8 rfl rfl (Nat.le_of_eq rfl) (hb hby d14_15) ?_
  intro T89 X89
  show own_G p e below _ T89 (mkF m 20 #[.val (.ref r0), .val (.ref b82), .val (.int (1 : Int32))] [(.int (3 : Int32)), (.int (1 : Int32))])
  refine own_st (f' := (mkF m 23 #[.val (.ref r0), .val (.ref b82), .val (.int (1 : Int32))] [])) (fun t k => XS.icmpNo X89.her hx rfl (hb hby d14_20) rfl (tlt (by decide : (1 : Int32) < (3 : Int32))).2.1 k) ?_
  refine own_st (f' := (mkF m 24 #[.val (.ref r0), .val (.ref b82), .val (.int (1 : Int32))] [(.ref b82)])) (fun t k => XS.aloadN X89.her hx rfl (hb hby d14_23) rfl rfl k) ?_
  refine own_st (f' := (mkF m 25 #[.val (.ref r0), .val (.ref b82), .val (.int (1 : Int32))] [(.int (1 : Int32)), (.ref b82)])) (fun t k => XS.iloadN X89.her hx rfl (hb hby d14_24) rfl k) ?_
  refine own_st (f' := (mkF m 26 #[.val (.ref r0), .val (.ref b82), .val (.int (1 : Int32))] [(.int (1 : Int32)), (.int (1 : Int32)), (.ref b82)])) (fun t k => XS.iconst X89.her hx rfl (hb hby d14_25) k) ?_
  refine own_st (f' := (mkF m 27 #[.val (.ref r0), .val (.ref b82), .val (.int (1 : Int32))] [(.int (2 : Int32)), (.ref b82)])) (fun t k => XS.iadd X89.her hx rfl (hb hby d14_26) rfl k) ?_
  refine own_st (f' := (mkF m 28 #[.val (.ref r0), .val (.ref b82), .val (.int (1 : Int32))] [(.ref b82), (.int (2 : Int32)), (.ref b82)])) (fun t k => XS.aloadN X89.her hx rfl (hb hby d14_27) rfl rfl k) ?_
  refine own_st (f' := (mkF m 29 #[.val (.ref r0), .val (.ref b82), .val (.int (1 : Int32))] [(.int (1 : Int32)), (.ref b82), (.int (2 : Int32)), (.ref b82)])) (fun t k => XS.iloadN X89.her hx rfl (hb hby d14_28) rfl k) ?_
  refine own_lload (v := ((0 : Int64) + c0)) X89 hx hZ B88 (by decide) rfl (hb hby d14_29) ?_
  refine own_st (f' := (mkF m 31 #[.val (.ref r0), .val (.ref b82), .val (.int (1 : Int32))] [(.ref r0), (.long ((0 : Int64) + c0)), (.int (2 : Int32)), (.ref b82)])) (fun t k => XS.aloadN X89.her hx rfl (hb hby d14_30) rfl rfl k) ?_
  refine own_st (f' := (mkF m 32 #[.val (.ref r0), .val (.ref b82), .val (.int (1 : Int32))] [(.int (1 : Int32)), (.ref r0), (.long ((0 : Int64) + c0)), (.int (2 : Int32)), (.ref b82)])) (fun t k => XS.iloadN X89.her hx rfl (hb hby d14_31) rfl k) ?_
  refine own_callIP (y := (⟨"java/util/ArrayList", "get", "(I)Ljava/lang/Object;"⟩ : MethodName)) (xi := (⟨"java/util/List", "get", "(I)Ljava/lang/Object;"⟩ : MethodName)) (W := 4) [(.int (1 : Int32))] X89 hx hZ hown (own_w97 hw) (own_w98 hw) (own_w99 hw) (own_w100 hw) (own_w101 hw) (own_w102 hw) (own_w103 hw) (own_w94 hw) (own_w25 hw) (own_w104 hw) (by decide) (by first | rfl | decide) A88_r0 (own_c16 l Z a0 hw h88 n0 Zn88 r0 (1 : Int32) (3 : Int32) es y1 _ A88_r0 F88_r0_size F88_r0_elementData B88_es (by decide) rfl (by decide)) (by decide) (by decide) (by decide) (by decide) (by rw [hml]; rfl) own_pd9 rfl rfl (Nat.le_of_eq rfl) (hb hby d14_32) ?_
  intro T90 X90
  show own_G p e below _ T90 (mkF m 37 #[.val (.ref r0), .val (.ref b82), .val (.int (1 : Int32))] [(.ref y1), (.long ((0 : Int64) + c0)), (.int (2 : Int32)), (.ref b82)])
  refine own_chk X90 hx hZ hown (own_w118 hw) A88_y1 (hb hby d14_37) ?_
  intro T91 X91
  refine own_callVP (y := (⟨"com/example/bidwright/bidwright/market/Money", "toCents", "()J"⟩ : MethodName)) (W := 4) [] X91 hx hZ hown (own_w120 hw) (own_w121 hw) (own_w123 hw) (own_w122 hw) (own_w11 hw) (own_w124 hw) (by decide) A88_y1 (own_c20 l Z a0 hw h88 n0 Zn88 y1 c1 F88_y1_cents) (by decide) (by decide) (by decide) (by decide) (by rw [hml]; rfl) own_pd11 rfl rfl (Nat.le_of_eq rfl) (hb hby d14_40) ?_
  intro T92 X92
  show own_G p e below _ T92 (mkF m 43 #[.val (.ref r0), .val (.ref b82), .val (.int (1 : Int32))] [(.long c1), (.long ((0 : Int64) + c0)), (.int (2 : Int32)), (.ref b82)])
  refine own_callSP (y := (⟨"java/lang/Math", "addExact", "(JJ)J"⟩ : MethodName)) (W := 2) [(.long ((0 : Int64) + c0)), (.long c1)] X92 hx hZ hown (own_w125 hw) (own_w126 hw) (own_w2 hw) (own_w127 hw) (by decide) (own_c21 l Z a0 hw h88 n0 Zn88 ((0 : Int64) + c0) c1 (own_nov (k := 1) (by decide) (own_am_add (by decide) own_am0 hm0) hm1)) (by decide) (by decide) (by decide) (by decide) (by rw [hml]; rfl) own_pd12 rfl rfl (Nat.le_of_eq rfl) (hb hby d14_43) ?_
  intro T93 X93
  show own_G p e below _ T93 (mkF m 46 #[.val (.ref r0), .val (.ref b82), .val (.int (1 : Int32))] [(.long (((0 : Int64) + c0) + c1)), (.int (2 : Int32)), (.ref b82)])
  refine own_lstore X93 hx hZ B88 (by decide) (by show 2 < 4; decide) (hb hby d14_46) ga_b82 (Or.inr q82) ?_
  intro T94 h94 X94 K94 B94
  replace B94 : own_LA Z h94 b82 [(0 : Int64), ((0 : Int64) + c0), (((0 : Int64) + c0) + c1), (0 : Int64)] := B94
  have B94_es := B88_es.keep K94 (ninS ne_es_b82 nin0)
  have F94_r0_size := F88_r0_size.keep K94 (ninS ne_r0_b82 nin0)
  have F94_r0_elementData := F88_r0_elementData.keep K94 (ninS ne_r0_b82 nin0)
  have F94_y0_cents := F88_y0_cents.keep K94 (ninS ne_y0_b82 nin0)
  have F94_y1_cents := F88_y1_cents.keep K94 (ninS ne_y1_b82 nin0)
  have F94_y2_cents := F88_y2_cents.keep K94 (ninS ne_y2_b82 nin0)
  have A94_r0 := A88_r0.keep K94
  have A94_y0 := A88_y0.keep K94
  have A94_y1 := A88_y1.keep K94
  have A94_y2 := A88_y2.keep K94
  have Zn94 : n0 ≤ h94.size := Nat.le_trans Zn88 K94.1
  refine own_st (f' := (mkF m 50 #[.val (.ref r0), .val (.ref b82), .val (.int (2 : Int32))] [])) (fun t k => XS.iinc X94.her hx rfl (hb hby d14_47) rfl (l' := #[.val (.ref r0), .val (.ref b82), .val (.int (2 : Int32))]) rfl k) ?_
  refine own_st (f' := (mkF m 13 #[.val (.ref r0), .val (.ref b82), .val (.int (2 : Int32))] [])) (fun t k => XS.goto X94.her hx rfl (pc0 := 50) (pc' := 13) rfl (hb hby d14_50) (by decide) (by decide) k) ?_
  refine own_st (f' := (mkF m 14 #[.val (.ref r0), .val (.ref b82), .val (.int (2 : Int32))] [(.int (2 : Int32))])) (fun t k => XS.iloadN X94.her hx rfl (hb hby d14_13) rfl k) ?_
  refine own_st (f' := (mkF m 15 #[.val (.ref r0), .val (.ref b82), .val (.int (2 : Int32))] [(.ref r0), (.int (2 : Int32))])) (fun t k => XS.aloadN X94.her hx rfl (hb hby d14_14) rfl rfl k) ?_
  refine own_callIP (y := (⟨"java/util/ArrayList", "size", "()I"⟩ : MethodName)) (xi := (⟨"java/util/List", "size", "()I"⟩ : MethodName)) (W := 1) [] X94 hx hZ hown (own_w87 hw) (own_w88 hw) (own_w89 hw) (own_w90 hw) (own_w91 hw) (own_w92 hw) (own_w93 hw) (own_w94 hw) (own_w25 hw) (own_w95 hw) (by decide) (by first | rfl | decide) A94_r0 (own_c15 l Z a0 hw h94 n0 Zn94 r0 (3 : Int32) F94_r0_size) (by decide) (by decide) (by decide) (by decide) (by rw [hml]; rfl) own_pd8 rfl rfl (Nat.le_of_eq rfl) (hb hby d14_15) ?_
  intro T95 X95
  show own_G p e below _ T95 (mkF m 20 #[.val (.ref r0), .val (.ref b82), .val (.int (2 : Int32))] [(.int (3 : Int32)), (.int (2 : Int32))])
  refine own_st (f' := (mkF m 23 #[.val (.ref r0), .val (.ref b82), .val (.int (2 : Int32))] [])) (fun t k => XS.icmpNo X95.her hx rfl (hb hby d14_20) rfl (tlt (by decide : (2 : Int32) < (3 : Int32))).2.1 k) ?_
  refine own_st (f' := (mkF m 24 #[.val (.ref r0), .val (.ref b82), .val (.int (2 : Int32))] [(.ref b82)])) (fun t k => XS.aloadN X95.her hx rfl (hb hby d14_23) rfl rfl k) ?_
  refine own_st (f' := (mkF m 25 #[.val (.ref r0), .val (.ref b82), .val (.int (2 : Int32))] [(.int (2 : Int32)), (.ref b82)])) (fun t k => XS.iloadN X95.her hx rfl (hb hby d14_24) rfl k) ?_
  refine own_st (f' := (mkF m 26 #[.val (.ref r0), .val (.ref b82), .val (.int (2 : Int32))] [(.int (1 : Int32)), (.int (2 : Int32)), (.ref b82)])) (fun t k => XS.iconst X95.her hx rfl (hb hby d14_25) k) ?_
  refine own_st (f' := (mkF m 27 #[.val (.ref r0), .val (.ref b82), .val (.int (2 : Int32))] [(.int (3 : Int32)), (.ref b82)])) (fun t k => XS.iadd X95.her hx rfl (hb hby d14_26) rfl k) ?_
  refine own_st (f' := (mkF m 28 #[.val (.ref r0), .val (.ref b82), .val (.int (2 : Int32))] [(.ref b82), (.int (3 : Int32)), (.ref b82)])) (fun t k => XS.aloadN X95.her hx rfl (hb hby d14_27) rfl rfl k) ?_
  refine own_st (f' := (mkF m 29 #[.val (.ref r0), .val (.ref b82), .val (.int (2 : Int32))] [(.int (2 : Int32)), (.ref b82), (.int (3 : Int32)), (.ref b82)])) (fun t k => XS.iloadN X95.her hx rfl (hb hby d14_28) rfl k) ?_
  refine own_lload (v := (((0 : Int64) + c0) + c1)) X95 hx hZ B94 (by decide) rfl (hb hby d14_29) ?_
  refine own_st (f' := (mkF m 31 #[.val (.ref r0), .val (.ref b82), .val (.int (2 : Int32))] [(.ref r0), (.long (((0 : Int64) + c0) + c1)), (.int (3 : Int32)), (.ref b82)])) (fun t k => XS.aloadN X95.her hx rfl (hb hby d14_30) rfl rfl k) ?_
  refine own_st (f' := (mkF m 32 #[.val (.ref r0), .val (.ref b82), .val (.int (2 : Int32))] [(.int (2 : Int32)), (.ref r0), (.long (((0 : Int64) + c0) + c1)), (.int (3 : Int32)), (.ref b82)])) (fun t k => XS.iloadN X95.her hx rfl (hb hby d14_31) rfl k) ?_
  refine own_callIP (y := (⟨"java/util/ArrayList", "get", "(I)Ljava/lang/Object;"⟩ : MethodName)) (xi := (⟨"java/util/List", "get", "(I)Ljava/lang/Object;"⟩ : MethodName)) (W := 4) [(.int (2 : Int32))] X95 hx hZ hown (own_w97 hw) (own_w98 hw) (own_w99 hw) (own_w100 hw) (own_w101 hw) (own_w102 hw) (own_w103 hw) (own_w94 hw) (own_w25 hw) (own_w104 hw) (by decide) (by first | rfl | decide) A94_r0 (own_c16 l Z a0 hw h94 n0 Zn94 r0 (2 : Int32) (3 : Int32) es y2 _ A94_r0 F94_r0_size F94_r0_elementData B94_es (by decide) rfl (by decide)) (by decide) (by decide) (by decide) (by decide) (by rw [hml]; rfl) own_pd9 rfl rfl (Nat.le_of_eq rfl) (hb hby d14_32) ?_
  intro T96 X96
  show own_G p e below _ T96 (mkF m 37 #[.val (.ref r0), .val (.ref b82), .val (.int (2 : Int32))] [(.ref y2), (.long (((0 : Int64) + c0) + c1)), (.int (3 : Int32)), (.ref b82)])
  refine own_chk X96 hx hZ hown (own_w118 hw) A94_y2 (hb hby d14_37) ?_
  intro T97 X97
  refine own_callVP (y := (⟨"com/example/bidwright/bidwright/market/Money", "toCents", "()J"⟩ : MethodName)) (W := 4) [] X97 hx hZ hown (own_w120 hw) (own_w121 hw) (own_w123 hw) (own_w122 hw) (own_w11 hw) (own_w124 hw) (by decide) A94_y2 (own_c20 l Z a0 hw h94 n0 Zn94 y2 c2 F94_y2_cents) (by decide) (by decide) (by decide) (by decide) (by rw [hml]; rfl) own_pd11 rfl rfl (Nat.le_of_eq rfl) (hb hby d14_40) ?_
  intro T98 X98
  show own_G p e below _ T98 (mkF m 43 #[.val (.ref r0), .val (.ref b82), .val (.int (2 : Int32))] [(.long c2), (.long (((0 : Int64) + c0) + c1)), (.int (3 : Int32)), (.ref b82)])
  refine own_callSP (y := (⟨"java/lang/Math", "addExact", "(JJ)J"⟩ : MethodName)) (W := 2) [(.long (((0 : Int64) + c0) + c1)), (.long c2)] X98 hx hZ hown (own_w125 hw) (own_w126 hw) (own_w2 hw) (own_w127 hw) (by decide) (own_c21 l Z a0 hw h94 n0 Zn94 (((0 : Int64) + c0) + c1) c2 (own_nov (k := 2) (by decide) (own_am_add (by decide) (own_am_add (by decide) own_am0 hm0) hm1) hm2)) (by decide) (by decide) (by decide) (by decide) (by rw [hml]; rfl) own_pd12 rfl rfl (Nat.le_of_eq rfl) (hb hby d14_43) ?_
  intro T99 X99
  show own_G p e below _ T99 (mkF m 46 #[.val (.ref r0), .val (.ref b82), .val (.int (2 : Int32))] [(.long ((((0 : Int64) + c0) + c1) + c2)), (.int (3 : Int32)), (.ref b82)])
  refine own_lstore X99 hx hZ B94 (by decide) (by show 3 < 4; decide) (hb hby d14_46) ga_b82 (Or.inr q82) ?_
  intro T100 h100 X100 K100 B100
  replace B100 : own_LA Z h100 b82 [(0 : Int64), ((0 : Int64) + c0), (((0 : Int64) + c0) + c1), ((((0 : Int64) + c0) + c1) + c2)] := B100
  have B100_es := B94_es.keep K100 (ninS ne_es_b82 nin0)
  have F100_r0_size := F94_r0_size.keep K100 (ninS ne_r0_b82 nin0)
  have F100_r0_elementData := F94_r0_elementData.keep K100 (ninS ne_r0_b82 nin0)
  have F100_y0_cents := F94_y0_cents.keep K100 (ninS ne_y0_b82 nin0)
  have F100_y1_cents := F94_y1_cents.keep K100 (ninS ne_y1_b82 nin0)
  have F100_y2_cents := F94_y2_cents.keep K100 (ninS ne_y2_b82 nin0)
  have A100_r0 := A94_r0.keep K100
  have A100_y0 := A94_y0.keep K100
  have A100_y1 := A94_y1.keep K100
  have A100_y2 := A94_y2.keep K100
  have Zn100 : n0 ≤ h100.size := Nat.le_trans Zn94 K100.1
  refine own_st (f' := (mkF m 50 #[.val (.ref r0), .val (.ref b82), .val (.int (3 : Int32))] [])) (fun t k => XS.iinc X100.her hx rfl (hb hby d14_47) rfl (l' := #[.val (.ref r0), .val (.ref b82), .val (.int (3 : Int32))]) rfl k) ?_
  refine own_st (f' := (mkF m 13 #[.val (.ref r0), .val (.ref b82), .val (.int (3 : Int32))] [])) (fun t k => XS.goto X100.her hx rfl (pc0 := 50) (pc' := 13) rfl (hb hby d14_50) (by decide) (by decide) k) ?_
  refine own_st (f' := (mkF m 14 #[.val (.ref r0), .val (.ref b82), .val (.int (3 : Int32))] [(.int (3 : Int32))])) (fun t k => XS.iloadN X100.her hx rfl (hb hby d14_13) rfl k) ?_
  refine own_st (f' := (mkF m 15 #[.val (.ref r0), .val (.ref b82), .val (.int (3 : Int32))] [(.ref r0), (.int (3 : Int32))])) (fun t k => XS.aloadN X100.her hx rfl (hb hby d14_14) rfl rfl k) ?_
  refine own_callIP (y := (⟨"java/util/ArrayList", "size", "()I"⟩ : MethodName)) (xi := (⟨"java/util/List", "size", "()I"⟩ : MethodName)) (W := 1) [] X100 hx hZ hown (own_w87 hw) (own_w88 hw) (own_w89 hw) (own_w90 hw) (own_w91 hw) (own_w92 hw) (own_w93 hw) (own_w94 hw) (own_w25 hw) (own_w95 hw) (by decide) (by first | rfl | decide) A100_r0 (own_c15 l Z a0 hw h100 n0 Zn100 r0 (3 : Int32) F100_r0_size) (by decide) (by decide) (by decide) (by decide) (by rw [hml]; rfl) own_pd8 rfl rfl (Nat.le_of_eq rfl) (hb hby d14_15) ?_
  intro T101 X101
  show own_G p e below _ T101 (mkF m 20 #[.val (.ref r0), .val (.ref b82), .val (.int (3 : Int32))] [(.int (3 : Int32)), (.int (3 : Int32))])
  refine own_st (f' := (mkF m 53 #[.val (.ref r0), .val (.ref b82), .val (.int (3 : Int32))] [])) (fun t k => XS.icmpYes X101.her hx rfl (pc0 := 20) (pc' := 53) rfl (hb hby d14_20) rfl (flt (by simp : ¬ ((3 : Int32) < (3 : Int32)))).2.1 (by decide) (by decide) k) ?_
  refine own_st (f' := (mkF m 54 #[.val (.ref r0), .val (.ref b82), .val (.int (3 : Int32))] [(.ref b82)])) (fun t k => XS.aloadN X101.her hx rfl (hb hby d14_53) rfl rfl k) ?_
  refine own_retA X101 hx hret hlk rfl rfl (hb hby d14_54) (by first | decide | omega) (by first | decide | omega) ?_
  exact ⟨b82, rfl, q82, _, B100, rfl⟩
theorem own_Mm {l : Launch} {y : MethodName} {code : ByteArray} {maxL : Nat} {ret : Option FieldType} {wd : List Jvm.Cond} {rm : Room} {Z : State} {as : Array Value} {h0 : Heap} {n0 : Nat} {ws : List Addr} {P P' : Option Value → Heap → Prop} (M : own_M l y code maxL ret wd rm Z as h0 (own_Q n0 h0 ws P)) (hp : ∀ v h, P v h → P' v h) : own_M l y code maxL ret wd rm Z as h0 (own_Q n0 h0 ws P') := by
  intro p e ha hc hk s m args below hf happ hP hK
  obtain ⟨n, o, h1, h2, h3, v, L, e1, ⟨q1, q2, q3⟩, e2⟩ := M p e ha hc hk s m args below hf happ hP hK
  exact ⟨n, o, h1, h2, h3, v, L, e1, ⟨q1, q2, hp _ _ q3⟩, e2⟩
/-- a list with these elements (each with its cents), below N -/
def own_LS (Z : State) (h : Heap) (N : Nat) (a : Addr) (L : List (Addr × Int64)) : Prop :=
  a < N ∧ Exa Z h a "java/util/ArrayList" ∧ Fld Z h a "java/util/ArrayList" "size" "I" (.int L.length.toInt32) ∧ (L = [] ∨ ∃ es : Addr, es < N ∧ Fld Z h a "java/util/ArrayList" "elementData" "[Ljava/lang/Object;" (.ref es) ∧ own_RA Z h es (L.map (fun q => Value.ref q.1) ++ List.replicate (10 - L.length) Value.null)) ∧ ∀ q ∈ L, q.1 < N ∧ Exa Z h q.1 "com/example/bidwright/bidwright/market/Money" ∧ Fld Z h q.1 "com/example/bidwright/bidwright/market/Money" "cents" "J" (.long q.2) ∧ own_am 1 q.2
theorem own_LS.keep {Z : State} {h h' : Heap} {N : Nat} {a : Addr} {L : List (Addr × Int64)} {ws : List Addr} (S : own_LS Z h N a L) (K : Keep h h' ws) (q : ∀ x ∈ ws, N ≤ x) : own_LS Z h' N a L := by
  obtain ⟨h1, E, F, D, A⟩ := S
  have nin : ∀ {x : Addr}, x < N → x ∉ ws := fun hx hm => absurd (q _ hm) (Nat.not_le.mpr hx)
  refine ⟨h1, E.keep K, F.keep K (nin h1), ?_, fun r hr => ?_⟩
  · rcases D with D | ⟨es, e1, e2, e3⟩
    · exact Or.inl D
    · exact Or.inr ⟨es, e1, e2.keep K (nin h1), e3.keep K (nin e1)⟩
  · obtain ⟨a1, a2, a3, a4⟩ := A r hr
    exact ⟨a1, a2.keep K, a3.keep K (nin a1), a4⟩
theorem own_q0 {P : (Addr × Int64) → Prop} : ∀ q ∈ ([] : List (Addr × Int64)), P q := fun _ q => nomatch q
theorem own_qS {P : (Addr × Int64) → Prop} {y : Addr × Int64} {L : List (Addr × Int64)} (q : P y) (r : ∀ x ∈ L, P x) : ∀ x ∈ y :: L, P x := fun x z => (List.mem_cons.mp z).elim (fun u => u ▸ q) (r x)
theorem own_rt (l : Launch) (Z : State) (a0 : Array Value) (hw : ∀ d ∈ tables_1, d.before a0 Z = true) (h0 : Heap) (n0 : Nat) (Z0 : n0 ≤ h0.size) (r0 : Addr) (N : Nat) (L : List (Addr × Int64)) (S : own_LS Z h0 N r0 L) (hl : L.length ≤ 3) :
    own_M l (⟨"com/example/bidwright/bidwright/allocation/Supply", "runningTotals", "(Ljava/util/List;)[J"⟩ : MethodName) prog_52_method_4_code 3 (some (.array .long)) [] ({ frames := 4, cells := 1, slots := 4, locals := 90 } : Room) Z #[(.ref r0)] h0 (own_Q n0 h0 [] (fun v h => ∃ b : Addr, v = some (.ref b) ∧ h0.size ≤ b ∧ ∃ La, own_LA Z h b La ∧ La.length = L.length + 1)) := by
  obtain ⟨-, E, F, D, A⟩ := S
  match L, hl, F, D, A with
  | [], _, F, _, _ => exact own_rt0 l Z a0 hw h0 n0 Z0 r0 E F
  | [(y0, c0)], _, F, D, A =>
    obtain ⟨es, -, Fe, BR⟩ := D.resolve_left (fun h => nomatch h)
    obtain ⟨-, Ey0, Fy0, hm0⟩ := A (y0, c0) (by simp)
    exact own_rt1 l Z a0 hw h0 n0 Z0 r0 y0 c0 es E F Fe BR Ey0 Fy0 hm0
  | [(y0, c0), (y1, c1)], _, F, D, A =>
    obtain ⟨es, -, Fe, BR⟩ := D.resolve_left (fun h => nomatch h)
    obtain ⟨-, Ey0, Fy0, hm0⟩ := A (y0, c0) (by simp)
    obtain ⟨-, Ey1, Fy1, hm1⟩ := A (y1, c1) (by simp)
    exact own_rt2 l Z a0 hw h0 n0 Z0 r0 y0 y1 c0 c1 es E F Fe BR Ey0 Fy0 hm0 Ey1 Fy1 hm1
  | [(y0, c0), (y1, c1), (y2, c2)], _, F, D, A =>
    obtain ⟨es, -, Fe, BR⟩ := D.resolve_left (fun h => nomatch h)
    obtain ⟨-, Ey0, Fy0, hm0⟩ := A (y0, c0) (by simp)
    obtain ⟨-, Ey1, Fy1, hm1⟩ := A (y1, c1) (by simp)
    obtain ⟨-, Ey2, Fy2, hm2⟩ := A (y2, c2) (by simp)
    exact own_rt3 l Z a0 hw h0 n0 Z0 r0 y0 y1 y2 c0 c1 c2 es E F Fe BR Ey0 Fy0 hm0 Ey1 Fy1 hm1 Ey2 Fy2 hm2
  | _ :: _ :: _ :: _ :: _, hl, _, _, _ => exact absurd hl (by simp)
theorem d13_0 : decode prog_52_method_1_code 0 = .ok (.aload_n 0, 1) := by decide +kernel
theorem d13_1 : decode prog_52_method_1_code 1 = .ok (.invokespecial 1, 3) := by decide +kernel
theorem d13_4 : decode prog_52_method_1_code 4 = .ok (.aload_n 0, 1) := by decide +kernel
theorem d13_5 : decode prog_52_method_1_code 5 = .ok (.iload_n 1, 1) := by decide +kernel
theorem d13_6 : decode prog_52_method_1_code 6 = .ok (.putfield 7, 3) := by decide +kernel
theorem d13_9 : decode prog_52_method_1_code 9 = .ok (.aload_n 0, 1) := by decide +kernel
theorem d13_10 : decode prog_52_method_1_code 10 = .ok (.aload_n 2, 1) := by decide +kernel
theorem d13_11 : decode prog_52_method_1_code 11 = .ok (.invokestatic 13, 3) := by decide +kernel
theorem d13_14 : decode prog_52_method_1_code 14 = .ok (.putfield 17, 3) := by decide +kernel
theorem d13_17 : decode prog_52_method_1_code 17 = .ok (.aload_n 0, 1) := by decide +kernel
theorem d13_18 : decode prog_52_method_1_code 18 = .ok (.aload_n 3, 1) := by decide +kernel
theorem d13_19 : decode prog_52_method_1_code 19 = .ok (.invokestatic 13, 3) := by decide +kernel
theorem d13_22 : decode prog_52_method_1_code 22 = .ok (.putfield 21, 3) := by decide +kernel
theorem d13_25 : decode prog_52_method_1_code 25 = .ok (.return_, 1) := by decide +kernel
theorem own_ef13 (m : MethodId) (r0 : Addr) (p1 : Int32) (r2 : Addr) (r3 : Addr) : entryFrame m #[(.ref r0), (.int p1), (.ref r2), (.ref r3)] 4 = mkF m 0 #[.val (.ref r0), .val (.int p1), .val (.ref r2), .val (.ref r3)] [] := by first | (simp [entryFrame, mkF, argsToLocals, Value.category]; done) | rfl
set_option maxRecDepth 65536 in
set_option maxHeartbeats 40000000 in
theorem own_c13 (l : Launch) (Z : State) (a0 : Array Value) (hw : ∀ d ∈ tables_1, d.before a0 Z = true) (h0 : Heap) (n0 : Nat) (Z0 : n0 ≤ h0.size) (r0 : Addr) (p1 : Int32) (r2 : Addr) (r3 : Addr) (N : Nat) (L2 L3 : List (Addr × Int64)) (E0 : (Exa Z h0 r0 "com/example/bidwright/bidwright/allocation/Supply")) (F0h : (Fld Z h0 r0 "com/example/bidwright/bidwright/allocation/Supply" "held" "I" (.int (0 : Int32)))) (F0c : (Fld Z h0 r0 "com/example/bidwright/bidwright/allocation/Supply" "costs" "[J" .null)) (F0r : (Fld Z h0 r0 "com/example/bidwright/bidwright/allocation/Supply" "revenues" "[J" .null)) (g0 : n0 ≤ r0) (hN : N ≤ r0) (S2 : own_LS Z h0 N r2 L2) (S3 : own_LS Z h0 N r3 L3) (hl2 : L2.length ≤ 3) (hl3 : L3.length ≤ 3) :
    own_M l (⟨"com/example/bidwright/bidwright/allocation/Supply", "<init>", "(ILjava/util/List;Ljava/util/List;)V"⟩ : MethodName) prog_52_method_1_code 4 none [] ({ frames := 5, cells := 2, slots := 8, locals := 105 } : Room) Z #[(.ref r0), (.int p1), (.ref r2), (.ref r3)] h0 (own_Q n0 h0 [r0] (fun v h => v = none ∧ (Exa Z h r0 "com/example/bidwright/bidwright/allocation/Supply") ∧ (Fld Z h r0 "com/example/bidwright/bidwright/allocation/Supply" "held" "I" (.int p1)) ∧ ∃ (b : Addr) (La : List Int64), (Fld Z h r0 "com/example/bidwright/bidwright/allocation/Supply" "costs" "[J" (.ref b)) ∧ own_LA Z h b La ∧ La.length = L2.length + 1)) := by
  refine own_body (plainFor_of_name own_pn6) ?_
  intro p e s m below meth c T0 X0 hx hby hml hown hnm hret hlk hZ
  refine own_cast (own_ef13 m r0 p1 r2 r3) ?_
  refine own_st (f' := (mkF m 1 #[.val (.ref r0), .val (.int p1), .val (.ref r2), .val (.ref r3)] [(.ref r0)])) (fun t k => XS.aloadN X0.her hx rfl (hb hby d13_0) rfl rfl k) ?_
  refine own_initO (W := 0) X0 hx hZ hown (own_w81 hw) (own_w19 hw) (own_w20 hw) (by decide) (by decide) (by rw [hml]; rfl) (Nat.le_of_eq rfl) (hb hby d13_1) ?_
  intro T102 X102
  refine own_st (f' := (mkF m 5 #[.val (.ref r0), .val (.int p1), .val (.ref r2), .val (.ref r3)] [(.ref r0)])) (fun t k => XS.aloadN X102.her hx rfl (hb hby d13_4) rfl rfl k) ?_
  refine own_st (f' := (mkF m 6 #[.val (.ref r0), .val (.int p1), .val (.ref r2), .val (.ref r3)] [(.int p1), (.ref r0)])) (fun t k => XS.iloadN X102.her hx rfl (hb hby d13_5) rfl k) ?_
  refine own_putF X102 hx hZ hown (own_w82 hw) F0h E0 (Or.inr ⟨(own_w83 hw), rfl, hnm⟩) (own_w76 hw) (ty := .int) (by decide) rfl rfl (hb hby d13_6) g0 (Or.inl (List.mem_cons_self)) ?_
  intro T103 h103 X103 W103 F103 A103
  have LS103_r2 := S2.keep (Keep.of_wr W103) (allS hN all0)
  have LS103_r3 := S3.keep (Keep.of_wr W103) (allS hN all0)
  have F103_costs := F0c.other W103 (Or.inr (slot_ne (Or.inr (own_w129 hw)) (Or.inr (own_w83 hw)) (by decide) (t := (.array .long)) (t' := .int) (by decide) (by decide)))
  have F103_revenues := F0r.other W103 (Or.inr (slot_ne (Or.inr (own_w131 hw)) (Or.inr (own_w83 hw)) (by decide) (t := (.array .long)) (t' := .int) (by decide) (by decide)))
  have Zn103 : n0 ≤ h103.size := by rw [W103.size]; exact Z0
  refine own_st (f' := (mkF m 10 #[.val (.ref r0), .val (.int p1), .val (.ref r2), .val (.ref r3)] [(.ref r0)])) (fun t k => XS.aloadN X103.her hx rfl (hb hby d13_9) rfl rfl k) ?_
  refine own_st (f' := (mkF m 11 #[.val (.ref r0), .val (.int p1), .val (.ref r2), .val (.ref r3)] [(.ref r2), (.ref r0)])) (fun t k => XS.aloadN X103.her hx rfl (hb hby d13_10) rfl rfl k) ?_
  refine own_callS (y := (⟨"com/example/bidwright/bidwright/allocation/Supply", "runningTotals", "(Ljava/util/List;)[J"⟩ : MethodName)) (W := 1) [(.ref r2)] X103 hx hZ hown (own_w84 hw) (own_w85 hw) (own_w77 hw) (own_w86 hw) (by decide) (own_rt l Z a0 hw h103 n0 Zn103 r2 N L2 LS103_r2 hl2) all0 (by decide) (by decide) (by decide) (by decide) (by rw [hml]; rfl) own_pd13 rfl rfl (Nat.le_of_eq rfl) (hb hby d13_11) ?_
  rintro v104 T104 h104 X104 K104 ⟨bt104, rfl, qg104, La104, Bt104, hl104⟩
  have F104_r0_costs := F103_costs.keep K104 nin0
  have F104_r0_revenues := F103_revenues.keep K104 nin0
  have F104_r0_held := F103.keep K104 nin0
  have A104_r0 := A103.keep K104
  have LS104_r2 := LS103_r2.keep K104 all0
  have LS104_r3 := LS103_r3.keep K104 all0
  have Zn104 : n0 ≤ h104.size := Nat.le_trans Zn103 K104.1
  have ne_r0_bt104 : r0 ≠ bt104 := Nat.ne_of_lt (Nat.lt_of_lt_of_le A103.lt qg104)
  show own_G p e below _ T104 (mkF m 14 #[.val (.ref r0), .val (.int p1), .val (.ref r2), .val (.ref r3)] [(.ref bt104), (.ref r0)])
  refine own_putF X104 hx hZ hown (own_w128 hw) F104_r0_costs A104_r0 (Or.inr ⟨(own_w129 hw), rfl, hnm⟩) (own_w76 hw) (ty := (.array .long)) (by decide) rfl rfl (hb hby d13_14) g0 (Or.inl (List.mem_cons_self)) ?_
  intro T105 h105 X105 W105 F105 A105
  have LS105_r2 := LS104_r2.keep (Keep.of_wr W105) (allS hN all0)
  have LS105_r3 := LS104_r3.keep (Keep.of_wr W105) (allS hN all0)
  have F105_revenues := F104_r0_revenues.other W105 (Or.inr (slot_ne (Or.inr (own_w131 hw)) (Or.inr (own_w129 hw)) (by decide) (t := (.array .long)) (t' := (.array .long)) (by decide) (by decide)))
  have F105_held := F104_r0_held.other W105 (Or.inr (slot_ne (Or.inr (own_w83 hw)) (Or.inr (own_w129 hw)) (by decide) (t := .int) (t' := (.array .long)) (by decide) (by decide)))
  have B105_bt104 := Bt104.other W105 (Ne.symm ne_r0_bt104)
  have Zn105 : n0 ≤ h105.size := by rw [W105.size]; exact Zn104
  refine own_st (f' := (mkF m 18 #[.val (.ref r0), .val (.int p1), .val (.ref r2), .val (.ref r3)] [(.ref r0)])) (fun t k => XS.aloadN X105.her hx rfl (hb hby d13_17) rfl rfl k) ?_
  refine own_st (f' := (mkF m 19 #[.val (.ref r0), .val (.int p1), .val (.ref r2), .val (.ref r3)] [(.ref r3), (.ref r0)])) (fun t k => XS.aloadN X105.her hx rfl (hb hby d13_18) rfl rfl k) ?_
  refine own_callS (y := (⟨"com/example/bidwright/bidwright/allocation/Supply", "runningTotals", "(Ljava/util/List;)[J"⟩ : MethodName)) (W := 1) [(.ref r3)] X105 hx hZ hown (own_w84 hw) (own_w85 hw) (own_w77 hw) (own_w86 hw) (by decide) (own_rt l Z a0 hw h105 n0 Zn105 r3 N L3 LS105_r3 hl3) all0 (by decide) (by decide) (by decide) (by decide) (by rw [hml]; rfl) own_pd13 rfl rfl (Nat.le_of_eq rfl) (hb hby d13_19) ?_
  rintro v106 T106 h106 X106 K106 ⟨bt106, rfl, qg106, La106, Bt106, hl106⟩
  have B106_bt104 := B105_bt104.keep K106 nin0
  have F106_r0_revenues := F105_revenues.keep K106 nin0
  have F106_r0_held := F105_held.keep K106 nin0
  have F106_r0_costs := F105.keep K106 nin0
  have A106_r0 := A105.keep K106
  have LS106_r2 := LS105_r2.keep K106 all0
  have LS106_r3 := LS105_r3.keep K106 all0
  have Zn106 : n0 ≤ h106.size := Nat.le_trans Zn105 K106.1
  have ne_r0_bt106 : r0 ≠ bt106 := Nat.ne_of_lt (Nat.lt_of_lt_of_le A105.lt qg106)
  have ne_bt104_bt106 : bt104 ≠ bt106 := Nat.ne_of_lt (Nat.lt_of_lt_of_le B105_bt104.lt qg106)
  show own_G p e below _ T106 (mkF m 22 #[.val (.ref r0), .val (.int p1), .val (.ref r2), .val (.ref r3)] [(.ref bt106), (.ref r0)])
  refine own_putF X106 hx hZ hown (own_w130 hw) F106_r0_revenues A106_r0 (Or.inr ⟨(own_w131 hw), rfl, hnm⟩) (own_w76 hw) (ty := (.array .long)) (by decide) rfl rfl (hb hby d13_22) g0 (Or.inl (List.mem_cons_self)) ?_
  intro T107 h107 X107 W107 F107 A107
  have LS107_r2 := LS106_r2.keep (Keep.of_wr W107) (allS hN all0)
  have LS107_r3 := LS106_r3.keep (Keep.of_wr W107) (allS hN all0)
  have F107_held := F106_r0_held.other W107 (Or.inr (slot_ne (Or.inr (own_w83 hw)) (Or.inr (own_w131 hw)) (by decide) (t := .int) (t' := (.array .long)) (by decide) (by decide)))
  have F107_costs := F106_r0_costs.other W107 (Or.inr (slot_ne (Or.inr (own_w129 hw)) (Or.inr (own_w131 hw)) (by decide) (t := (.array .long)) (t' := (.array .long)) (by decide) (by decide)))
  have B107_bt104 := B106_bt104.other W107 (Ne.symm ne_r0_bt104)
  have B107_bt106 := Bt106.other W107 (Ne.symm ne_r0_bt106)
  have Zn107 : n0 ≤ h107.size := by rw [W107.size]; exact Zn106
  refine own_ret0 X107 hx hret hlk (hb hby d13_25) (by first | decide | omega) (by first | decide | omega) ?_
  exact ⟨rfl, A107, F107_held, bt104, _, F107_costs, B107_bt104, hl104⟩
theorem d22_0 : decode prog_52_method_5_code 0 = .ok (.aload_n 0, 1) := by decide +kernel
theorem d22_1 : decode prog_52_method_5_code 1 = .ok (.getfield 7, 3) := by decide +kernel
theorem d22_4 : decode prog_52_method_5_code 4 = .ok (.i2l, 1) := by decide +kernel
theorem d22_5 : decode prog_52_method_5_code 5 = .ok (.aload_n 0, 1) := by decide +kernel
theorem d22_6 : decode prog_52_method_5_code 6 = .ok (.getfield 17, 3) := by decide +kernel
theorem d22_9 : decode prog_52_method_5_code 9 = .ok (.arraylength, 1) := by decide +kernel
theorem d22_10 : decode prog_52_method_5_code 10 = .ok (.i2l, 1) := by decide +kernel
theorem d22_11 : decode prog_52_method_5_code 11 = .ok (.ladd, 1) := by decide +kernel
theorem d22_12 : decode prog_52_method_5_code 12 = .ok (.lconst 1, 1) := by decide +kernel
theorem d22_13 : decode prog_52_method_5_code 13 = .ok (.lsub, 1) := by decide +kernel
theorem d22_14 : decode prog_52_method_5_code 14 = .ok (.lreturn, 1) := by decide +kernel
theorem own_ef22 (m : MethodId) (r0 : Addr) : entryFrame m #[(.ref r0)] 1 = mkF m 0 #[.val (.ref r0)] [] := by first | (simp [entryFrame, mkF, argsToLocals, Value.category]; done) | rfl
set_option maxRecDepth 65536 in
set_option maxHeartbeats 40000000 in
theorem own_c22 (l : Launch) (Z : State) (a0 : Array Value) (hw : ∀ d ∈ tables_1, d.before a0 Z = true) (h0 : Heap) (n0 : Nat) (Z0 : n0 ≤ h0.size) (r0 : Addr) (w nl : Int32) (b1 : Addr) (La : List Int64) (F0h : (Fld Z h0 r0 "com/example/bidwright/bidwright/allocation/Supply" "held" "I" (.int w))) (F0c : (Fld Z h0 r0 "com/example/bidwright/bidwright/allocation/Supply" "costs" "[J" (.ref b1))) (B0 : own_LA Z h0 b1 La) (hnl : La.length.toInt32 = nl) :
    own_M l (⟨"com/example/bidwright/bidwright/allocation/Supply", "most", "()J"⟩ : MethodName) prog_52_method_5_code 1 (some .long) [] ({ frames := 0, cells := 0, slots := 0, locals := 0 } : Room) Z #[(.ref r0)] h0 (own_Q n0 h0 [] (own_P (.long ((w.toInt64 + nl.toInt64) - 1)) h0)) := by
  refine own_body (plainFor_of_name own_pn6) ?_
  intro p e s m below meth c T0 X0 hx hby hml hown hnm hret hlk hZ
  refine own_cast (own_ef22 m r0) ?_
  refine own_st (f' := (mkF m 1 #[.val (.ref r0)] [(.ref r0)])) (fun t k => XS.aloadN X0.her hx rfl (hb hby d22_0) rfl rfl k) ?_
  refine own_getF X0 hx hZ hown (own_w82 hw) F0h (hb hby d22_1) ?_
  intro T108 X108
  refine own_st (f' := (mkF m 5 #[.val (.ref r0)] [(.long (w.toInt64))])) (fun t k => XS.i2l X108.her hx rfl (hb hby d22_4) rfl k) ?_
  refine own_st (f' := (mkF m 6 #[.val (.ref r0)] [(.ref r0), (.long (w.toInt64))])) (fun t k => XS.aloadN X108.her hx rfl (hb hby d22_5) rfl rfl k) ?_
  refine own_getF X108 hx hZ hown (own_w128 hw) F0c (hb hby d22_6) ?_
  intro T109 X109
  obtain ⟨cl110, Ar110, sz110⟩ := B0.len
  refine own_alen (n := nl) X109 hx hZ Ar110 (by rw [sz110]; exact hnl) (hb hby d22_9) ?_
  refine own_st (f' := (mkF m 11 #[.val (.ref r0)] [(.long (nl.toInt64)), (.long (w.toInt64))])) (fun t k => XS.i2l X109.her hx rfl (hb hby d22_10) rfl k) ?_
  refine own_st (f' := (mkF m 12 #[.val (.ref r0)] [(.long ((w.toInt64) + (nl.toInt64)))])) (fun t k => XS.ladd X109.her hx rfl (hb hby d22_11) rfl k) ?_
  refine own_st (f' := (mkF m 13 #[.val (.ref r0)] [(.long (1 : Int64)), (.long ((w.toInt64) + (nl.toInt64)))])) (fun t k => XS.lconst X109.her hx rfl (hb hby d22_12) k) ?_
  refine own_st (f' := (mkF m 14 #[.val (.ref r0)] [(.long (((w.toInt64) + (nl.toInt64)) - (1 : Int64)))])) (fun t k => XS.lsub X109.her hx rfl (hb hby d22_13) rfl k) ?_
  refine own_retL X109 hx hret hlk (hb hby d22_14) (by first | decide | omega) (by first | decide | omega) ?_
  exact ⟨rfl, rfl⟩
def own_t0_3 (p0 : Int32) (p1 : Int32) (p2 : Int32) (q3 : Int64) (q4 : Int64) : Int32 := (p1 &&& (3 : Int32))
def own_t0_16 (p0 : Int32) (p1 : Int32) (p2 : Int32) (q3 : Int64) (q4 : Int64) : Int32 := (own_F2 (p2 &&& (3 : Int32)) (own_F1 p0 (0 : Int32)))
def own_t0_27 (p0 : Int32) (p1 : Int32) (p2 : Int32) (q3 : Int64) (q4 : Int64) : Int64 := ((q3 &&& (16777215 : Int64)) % (10000001 : Int64))
def own_t0_42 (p0 : Int32) (p1 : Int32) (p2 : Int32) (q3 : Int64) (q4 : Int64) : Int64 := ((q4 &&& (16777215 : Int64)) % (10000001 : Int64))
def own_t0_167 (p0 : Int32) (p1 : Int32) (p2 : Int32) (q3 : Int64) (q4 : Int64) : Int64 := ((p0.toInt64) + ((own_t0_3 p0 p1 p2 q3 q4).toInt64))
/-- the plain law -/
theorem own_nl {a b n : Int32} (hab : ¬ b < a) (h : ¬ a < n) : ¬ b < n := by
  rw [Int32.lt_iff_toInt_lt] at *
  omega
theorem own_am27 (p0 p1 p2 : Int32) (q3 q4 : Int64) : own_am 1 (own_t0_27 p0 p1 p2 q3 q4) := by
  have m : (q3 &&& 16777215).toInt = q3.toInt % 2 ^ 24 := Jvm.Kit.i64_mask q3 16777215 (by decide) (by decide)
  have r : (own_t0_27 p0 p1 p2 q3 q4).toInt = (q3 &&& 16777215).toInt % 10000001 := by
    show ((q3 &&& 16777215) % 10000001).toInt = _
    rw [Int64.toInt_mod, Int.tmod_eq_emod_of_nonneg (by omega)]; rfl
  unfold own_am
  omega
theorem own_am42 (p0 p1 p2 : Int32) (q3 q4 : Int64) : own_am 1 (own_t0_42 p0 p1 p2 q3 q4) := by
  have m : (q4 &&& 16777215).toInt = q4.toInt % 2 ^ 24 := Jvm.Kit.i64_mask q4 16777215 (by decide) (by decide)
  have r : (own_t0_42 p0 p1 p2 q3 q4).toInt = (q4 &&& 16777215).toInt % 10000001 := by
    show ((q4 &&& 16777215) % 10000001).toInt = _
    rw [Int64.toInt_mod, Int.tmod_eq_emod_of_nonneg (by omega)]; rfl
  unfold own_am
  omega
theorem own_nb (p0 p1 p2 : Int32) (q3 q4 : Int64) : 0 ≤ (own_t0_3 p0 p1 p2 q3 q4).toInt ∧ (own_t0_3 p0 p1 p2 q3 q4).toInt ≤ 3 := by
  have m1 : (own_t0_3 p0 p1 p2 q3 q4).toInt = p1.toInt % 2 ^ 2 := Jvm.Kit.i32_mask p1 3 (by decide) (by decide)
  omega
theorem own_nb0 (p0 p1 p2 : Int32) (q3 q4 : Int64) (h : ¬ (0 : Int32) < own_t0_3 p0 p1 p2 q3 q4) : own_t0_3 p0 p1 p2 q3 q4 = 0 := by
  have := own_nb p0 p1 p2 q3 q4
  rw [Int32.lt_iff_toInt_lt, show (0 : Int32).toInt = 0 from rfl] at h
  apply Int32.toInt_inj.mp
  rw [show (0 : Int32).toInt = 0 from rfl]
  omega
theorem own_nb1 (p0 p1 p2 : Int32) (q3 q4 : Int64) (h : (0 : Int32) < own_t0_3 p0 p1 p2 q3 q4) (g : ¬ (1 : Int32) < own_t0_3 p0 p1 p2 q3 q4) : own_t0_3 p0 p1 p2 q3 q4 = 1 := by
  rw [Int32.lt_iff_toInt_lt, show (0 : Int32).toInt = 0 from rfl] at h
  rw [Int32.lt_iff_toInt_lt, show (1 : Int32).toInt = 1 from rfl] at g
  apply Int32.toInt_inj.mp
  rw [show (1 : Int32).toInt = 1 from rfl]
  omega
theorem own_nb2 (p0 p1 p2 : Int32) (q3 q4 : Int64) (h : (1 : Int32) < own_t0_3 p0 p1 p2 q3 q4) (g : ¬ (2 : Int32) < own_t0_3 p0 p1 p2 q3 q4) : own_t0_3 p0 p1 p2 q3 q4 = 2 := by
  rw [Int32.lt_iff_toInt_lt, show (1 : Int32).toInt = 1 from rfl] at h
  rw [Int32.lt_iff_toInt_lt, show (2 : Int32).toInt = 2 from rfl] at g
  apply Int32.toInt_inj.mp
  rw [show (2 : Int32).toInt = 2 from rfl]
  omega
theorem own_nb3 (p0 p1 p2 : Int32) (q3 q4 : Int64) (h : (2 : Int32) < own_t0_3 p0 p1 p2 q3 q4) : own_t0_3 p0 p1 p2 q3 q4 = 3 := by
  have := own_nb p0 p1 p2 q3 q4
  rw [Int32.lt_iff_toInt_lt, show (2 : Int32).toInt = 2 from rfl] at h
  apply Int32.toInt_inj.mp
  rw [show (3 : Int32).toInt = 3 from rfl]
  omega
theorem own_fin (a n m : Int32) (h : m.toInt64 = n.toInt64 + 1) : (a.toInt64 + m.toInt64) - 1 = a.toInt64 + n.toInt64 := by
  rw [h, ← Int64.add_assoc, Int64.add_sub_cancel]
theorem own_ef0 (m : MethodId) (p0 : Int32) (p1 : Int32) (p2 : Int32) (q3 : Int64) (q4 : Int64) : entryFrame m #[(.int p0), (.int p1), (.int p2), (.long q3), (.long q4)] maxLocals = mkF m 0 #[.val (.int p0), .val (.int p1), .val (.int p2), .val (.long q3), .second, .val (.long q4), .second, .unset, .unset, .unset, .unset, .unset, .unset, .unset, .unset, .unset] [] := by first | (simp [entryFrame, mkF, argsToLocals, Value.category, maxLocals]; done) | rfl
set_option maxRecDepth 65536 in
set_option maxHeartbeats 40000000 in
theorem own_c0 (l : Launch) (Z : State) (a0 : Array Value) (hw : ∀ d ∈ tables_1, d.before a0 Z = true) (h0 : Heap) (n0 : Nat) (Z0 : n0 ≤ h0.size) (p0 : Int32) (p1 : Int32) (p2 : Int32) (q3 : Int64) (q4 : Int64) (vd : Addr) (BE : own_EA Z h0 vd) (S0 : (Sta Z h0 "java/util/ArrayList" "DEFAULTCAPACITY_EMPTY_ELEMENTDATA" "[Ljava/lang/Object;" (.ref vd))) :
    own_M l x code maxLocals ret tables_1 room_1 Z #[(.int p0), (.int p1), (.int p2), (.long q3), (.long q4)] h0 (own_Q n0 h0 [] (fun v _ => v = some (.int 1))) := by
  refine own_body (plainFor_of_name own_pn7) ?_
  intro p e s m below meth c T0 X0 hx hby hml hown hnm hret hlk hZ
  refine own_cast (own_ef0 m p0 p1 p2 q3 q4) ?_
  refine own_st (f' := (mkF m 1 #[.val (.int p0), .val (.int p1), .val (.int p2), .val (.long q3), .second, .val (.long q4), .second, .unset, .unset, .unset, .unset, .unset, .unset, .unset, .unset, .unset] [(.int p1)])) (fun t k => XS.iloadN X0.her hx rfl (hb hby at_0) rfl k) ?_
  refine own_st (f' := (mkF m 2 #[.val (.int p0), .val (.int p1), .val (.int p2), .val (.long q3), .second, .val (.long q4), .second, .unset, .unset, .unset, .unset, .unset, .unset, .unset, .unset, .unset] [(.int (3 : Int32)), (.int p1)])) (fun t k => XS.iconst X0.her hx rfl (hb hby at_1) k) ?_
  refine own_st (f' := (mkF m 3 #[.val (.int p0), .val (.int p1), .val (.int p2), .val (.long q3), .second, .val (.long q4), .second, .unset, .unset, .unset, .unset, .unset, .unset, .unset, .unset, .unset] [(.int (p1 &&& (3 : Int32)))])) (fun t k => XS.iand X0.her hx rfl (hb hby at_2) rfl k) ?_
  refine own_st (f' := (mkF m 5 #[.val (.int p0), .val (.int p1), .val (.int p2), .val (.long q3), .second, .val (.long q4), .second, .val (.int (own_t0_3 p0 p1 p2 q3 q4)), .unset, .unset, .unset, .unset, .unset, .unset, .unset, .unset] [])) (fun t k => XS.istore X0.her hx rfl (hb hby at_3) rfl (l' := #[.val (.int p0), .val (.int p1), .val (.int p2), .val (.long q3), .second, .val (.long q4), .second, .val (.int (own_t0_3 p0 p1 p2 q3 q4)), .unset, .unset, .unset, .unset, .unset, .unset, .unset, .unset]) rfl k) ?_
  refine own_st (f' := (mkF m 6 #[.val (.int p0), .val (.int p1), .val (.int p2), .val (.long q3), .second, .val (.long q4), .second, .val (.int (own_t0_3 p0 p1 p2 q3 q4)), .unset, .unset, .unset, .unset, .unset, .unset, .unset, .unset] [(.int p2)])) (fun t k => XS.iloadN X0.her hx rfl (hb hby at_5) rfl k) ?_
  refine own_st (f' := (mkF m 7 #[.val (.int p0), .val (.int p1), .val (.int p2), .val (.long q3), .second, .val (.long q4), .second, .val (.int (own_t0_3 p0 p1 p2 q3 q4)), .unset, .unset, .unset, .unset, .unset, .unset, .unset, .unset] [(.int (3 : Int32)), (.int p2)])) (fun t k => XS.iconst X0.her hx rfl (hb hby at_6) k) ?_
  refine own_st (f' := (mkF m 8 #[.val (.int p0), .val (.int p1), .val (.int p2), .val (.long q3), .second, .val (.long q4), .second, .val (.int (own_t0_3 p0 p1 p2 q3 q4)), .unset, .unset, .unset, .unset, .unset, .unset, .unset, .unset] [(.int (p2 &&& (3 : Int32)))])) (fun t k => XS.iand X0.her hx rfl (hb hby at_7) rfl k) ?_
  refine own_st (f' := (mkF m 9 #[.val (.int p0), .val (.int p1), .val (.int p2), .val (.long q3), .second, .val (.long q4), .second, .val (.int (own_t0_3 p0 p1 p2 q3 q4)), .unset, .unset, .unset, .unset, .unset, .unset, .unset, .unset] [(.int p0), (.int (p2 &&& (3 : Int32)))])) (fun t k => XS.iloadN X0.her hx rfl (hb hby at_8) rfl k) ?_
  refine own_st (f' := (mkF m 10 #[.val (.int p0), .val (.int p1), .val (.int p2), .val (.long q3), .second, .val (.long q4), .second, .val (.int (own_t0_3 p0 p1 p2 q3 q4)), .unset, .unset, .unset, .unset, .unset, .unset, .unset, .unset] [(.int (0 : Int32)), (.int p0), (.int (p2 &&& (3 : Int32)))])) (fun t k => XS.iconst X0.her hx rfl (hb hby at_9) k) ?_
  refine own_callSP (y := (⟨"java/lang/Math", "max", "(II)I"⟩ : MethodName)) (W := 1) [(.int p0), (.int (0 : Int32))] X0 hx hZ hown (own_w0 hw) (own_w1 hw) (own_w2 hw) (own_w3 hw) (by decide) (own_c1 l Z a0 hw h0 n0 Z0 p0 (0 : Int32)) (by decide) (by decide) (by decide) (by decide) (by rw [hml]; rfl) own_pd0 rfl rfl (Nat.le_of_eq rfl) (hb hby at_10) ?_
  intro T111 X111
  show own_G p e below _ T111 (mkF m 13 #[.val (.int p0), .val (.int p1), .val (.int p2), .val (.long q3), .second, .val (.long q4), .second, .val (.int (own_t0_3 p0 p1 p2 q3 q4)), .unset, .unset, .unset, .unset, .unset, .unset, .unset, .unset] [(.int (own_F1 p0 (0 : Int32))), (.int (p2 &&& (3 : Int32)))])
  refine own_callSP (y := (⟨"java/lang/Math", "min", "(II)I"⟩ : MethodName)) (W := 0) [(.int (p2 &&& (3 : Int32))), (.int (own_F1 p0 (0 : Int32)))] X111 hx hZ hown (own_w4 hw) (own_w5 hw) (own_w2 hw) (own_w6 hw) (by decide) (own_c2 l Z a0 hw h0 n0 Z0 (p2 &&& (3 : Int32)) (own_F1 p0 (0 : Int32))) (by decide) (by decide) (by decide) (by decide) (by rw [hml]; rfl) own_pd0 rfl rfl (Nat.le_of_eq rfl) (hb hby at_13) ?_
  intro T112 X112
  show own_G p e below _ T112 (mkF m 16 #[.val (.int p0), .val (.int p1), .val (.int p2), .val (.long q3), .second, .val (.long q4), .second, .val (.int (own_t0_3 p0 p1 p2 q3 q4)), .unset, .unset, .unset, .unset, .unset, .unset, .unset, .unset] [(.int (own_F2 (p2 &&& (3 : Int32)) (own_F1 p0 (0 : Int32))))])
  refine own_st (f' := (mkF m 18 #[.val (.int p0), .val (.int p1), .val (.int p2), .val (.long q3), .second, .val (.long q4), .second, .val (.int (own_t0_3 p0 p1 p2 q3 q4)), .val (.int (own_t0_16 p0 p1 p2 q3 q4)), .unset, .unset, .unset, .unset, .unset, .unset, .unset] [])) (fun t k => XS.istore X112.her hx rfl (hb hby at_16) rfl (l' := #[.val (.int p0), .val (.int p1), .val (.int p2), .val (.long q3), .second, .val (.long q4), .second, .val (.int (own_t0_3 p0 p1 p2 q3 q4)), .val (.int (own_t0_16 p0 p1 p2 q3 q4)), .unset, .unset, .unset, .unset, .unset, .unset, .unset]) rfl k) ?_
  refine own_st (f' := (mkF m 19 #[.val (.int p0), .val (.int p1), .val (.int p2), .val (.long q3), .second, .val (.long q4), .second, .val (.int (own_t0_3 p0 p1 p2 q3 q4)), .val (.int (own_t0_16 p0 p1 p2 q3 q4)), .unset, .unset, .unset, .unset, .unset, .unset, .unset] [(.long q3)])) (fun t k => XS.lloadN X112.her hx rfl (hb hby at_18) rfl k) ?_
  refine own_ldcL X112 hx hZ hown (own_w7 hw) (hb hby at_19) ?_
  refine own_st (f' := (mkF m 23 #[.val (.int p0), .val (.int p1), .val (.int p2), .val (.long q3), .second, .val (.long q4), .second, .val (.int (own_t0_3 p0 p1 p2 q3 q4)), .val (.int (own_t0_16 p0 p1 p2 q3 q4)), .unset, .unset, .unset, .unset, .unset, .unset, .unset] [(.long (q3 &&& (16777215 : Int64)))])) (fun t k => XS.land X112.her hx rfl (hb hby at_22) rfl k) ?_
  refine own_ldcL X112 hx hZ hown (own_w8 hw) (hb hby at_23) ?_
  refine own_lrem X112 hx (hb hby at_26) (by decide) ?_
  show own_G p e below _ T112 (mkF m 27 #[.val (.int p0), .val (.int p1), .val (.int p2), .val (.long q3), .second, .val (.long q4), .second, .val (.int (own_t0_3 p0 p1 p2 q3 q4)), .val (.int (own_t0_16 p0 p1 p2 q3 q4)), .unset, .unset, .unset, .unset, .unset, .unset, .unset] [(.long (own_t0_27 p0 p1 p2 q3 q4))])
  refine own_callS (y := (⟨"com/example/bidwright/bidwright/market/Money", "cents", "(J)Lcom/example/bidwright/bidwright/market/Money;"⟩ : MethodName)) (W := 0) [(.long (own_t0_27 p0 p1 p2 q3 q4))] X112 hx hZ hown (own_w9 hw) (own_w10 hw) (own_w11 hw) (own_w12 hw) (by decide) (own_c3 l Z a0 hw h0 n0 Z0 (own_t0_27 p0 p1 p2 q3 q4)) all0 (by decide) (by decide) (by decide) (by decide) (by rw [hml]; rfl) own_pd7 rfl rfl (Nat.le_of_eq rfl) (hb hby at_27) ?_
  rintro v113 T113 h113 X113 K113 ⟨bm113, rfl, qg113, Ax113, Fx113⟩
  have B113_vd := BE.keep K113 nin0
  have Zn113 : n0 ≤ h113.size := Nat.le_trans Z0 K113.1
  have Sk113 := own_Sta_keep S0 K113 all0
  have ne_vd_bm113 : vd ≠ bm113 := Nat.ne_of_lt (Nat.lt_of_lt_of_le BE.lt qg113)
  show own_G p e below _ T113 (mkF m 30 #[.val (.int p0), .val (.int p1), .val (.int p2), .val (.long q3), .second, .val (.long q4), .second, .val (.int (own_t0_3 p0 p1 p2 q3 q4)), .val (.int (own_t0_16 p0 p1 p2 q3 q4)), .unset, .unset, .unset, .unset, .unset, .unset, .unset] [(.ref bm113)])
  refine own_st (f' := (mkF m 32 #[.val (.int p0), .val (.int p1), .val (.int p2), .val (.long q3), .second, .val (.long q4), .second, .val (.int (own_t0_3 p0 p1 p2 q3 q4)), .val (.int (own_t0_16 p0 p1 p2 q3 q4)), .val (.ref bm113), .unset, .unset, .unset, .unset, .unset, .unset] [])) (fun t k => XS.astore X113.her hx rfl (hb hby at_30) rfl rfl (l' := #[.val (.int p0), .val (.int p1), .val (.int p2), .val (.long q3), .second, .val (.long q4), .second, .val (.int (own_t0_3 p0 p1 p2 q3 q4)), .val (.int (own_t0_16 p0 p1 p2 q3 q4)), .val (.ref bm113), .unset, .unset, .unset, .unset, .unset, .unset]) rfl k) ?_
  refine own_st (f' := (mkF m 34 #[.val (.int p0), .val (.int p1), .val (.int p2), .val (.long q3), .second, .val (.long q4), .second, .val (.int (own_t0_3 p0 p1 p2 q3 q4)), .val (.int (own_t0_16 p0 p1 p2 q3 q4)), .val (.ref bm113), .unset, .unset, .unset, .unset, .unset, .unset] [(.long q4)])) (fun t k => XS.lload X113.her hx rfl (hb hby at_32) rfl k) ?_
  refine own_ldcL X113 hx hZ hown (own_w7 hw) (hb hby at_34) ?_
  refine own_st (f' := (mkF m 38 #[.val (.int p0), .val (.int p1), .val (.int p2), .val (.long q3), .second, .val (.long q4), .second, .val (.int (own_t0_3 p0 p1 p2 q3 q4)), .val (.int (own_t0_16 p0 p1 p2 q3 q4)), .val (.ref bm113), .unset, .unset, .unset, .unset, .unset, .unset] [(.long (q4 &&& (16777215 : Int64)))])) (fun t k => XS.land X113.her hx rfl (hb hby at_37) rfl k) ?_
  refine own_ldcL X113 hx hZ hown (own_w8 hw) (hb hby at_38) ?_
  refine own_lrem X113 hx (hb hby at_41) (by decide) ?_
  show own_G p e below _ T113 (mkF m 42 #[.val (.int p0), .val (.int p1), .val (.int p2), .val (.long q3), .second, .val (.long q4), .second, .val (.int (own_t0_3 p0 p1 p2 q3 q4)), .val (.int (own_t0_16 p0 p1 p2 q3 q4)), .val (.ref bm113), .unset, .unset, .unset, .unset, .unset, .unset] [(.long (own_t0_42 p0 p1 p2 q3 q4))])
  refine own_callS (y := (⟨"com/example/bidwright/bidwright/market/Money", "cents", "(J)Lcom/example/bidwright/bidwright/market/Money;"⟩ : MethodName)) (W := 0) [(.long (own_t0_42 p0 p1 p2 q3 q4))] X113 hx hZ hown (own_w9 hw) (own_w10 hw) (own_w11 hw) (own_w12 hw) (by decide) (own_c3 l Z a0 hw h113 n0 Zn113 (own_t0_42 p0 p1 p2 q3 q4)) all0 (by decide) (by decide) (by decide) (by decide) (by rw [hml]; rfl) own_pd7 rfl rfl (Nat.le_of_eq rfl) (hb hby at_42) ?_
  rintro v114 T114 h114 X114 K114 ⟨bm114, rfl, qg114, Ax114, Fx114⟩
  have B114_vd := B113_vd.keep K114 nin0
  have F114_bm113_cents := Fx113.keep K114 nin0
  have A114_bm113 := Ax113.keep K114
  have Zn114 : n0 ≤ h114.size := Nat.le_trans Zn113 K114.1
  have Sk114 := own_Sta_keep Sk113 K114 all0
  have ne_bm113_bm114 : bm113 ≠ bm114 := Nat.ne_of_lt (Nat.lt_of_lt_of_le Ax113.lt qg114)
  have ne_vd_bm114 : vd ≠ bm114 := Nat.ne_of_lt (Nat.lt_of_lt_of_le B113_vd.lt qg114)
  show own_G p e below _ T114 (mkF m 45 #[.val (.int p0), .val (.int p1), .val (.int p2), .val (.long q3), .second, .val (.long q4), .second, .val (.int (own_t0_3 p0 p1 p2 q3 q4)), .val (.int (own_t0_16 p0 p1 p2 q3 q4)), .val (.ref bm113), .unset, .unset, .unset, .unset, .unset, .unset] [(.ref bm114)])
  refine own_st (f' := (mkF m 47 #[.val (.int p0), .val (.int p1), .val (.int p2), .val (.long q3), .second, .val (.long q4), .second, .val (.int (own_t0_3 p0 p1 p2 q3 q4)), .val (.int (own_t0_16 p0 p1 p2 q3 q4)), .val (.ref bm113), .val (.ref bm114), .unset, .unset, .unset, .unset, .unset] [])) (fun t k => XS.astore X114.her hx rfl (hb hby at_45) rfl rfl (l' := #[.val (.int p0), .val (.int p1), .val (.int p2), .val (.long q3), .second, .val (.long q4), .second, .val (.int (own_t0_3 p0 p1 p2 q3 q4)), .val (.int (own_t0_16 p0 p1 p2 q3 q4)), .val (.ref bm113), .val (.ref bm114), .unset, .unset, .unset, .unset, .unset]) rfl k) ?_
  refine own_newO X114 hx hZ hown (own_w23 hw) (own_w24 hw) (own_w25 hw) (hb hby at_47) (by decide) (by decide) ?_
  intro T115 h115 b115 g115 q115 X115 E115 A115 D115
  have lt_vd_b115 : vd < b115 := Nat.lt_of_lt_of_le B114_vd.lt (Nat.le_of_eq g115.symm)
  have ne_vd_b115 : vd ≠ b115 := Nat.ne_of_lt (Nat.lt_of_lt_of_le B114_vd.lt (Nat.le_of_eq g115.symm))
  have B115_vd := B114_vd.ext E115
  have lt_bm113_b115 : bm113 < b115 := Nat.lt_of_lt_of_le A114_bm113.lt (Nat.le_of_eq g115.symm)
  have ne_bm113_b115 : bm113 ≠ b115 := Nat.ne_of_lt (Nat.lt_of_lt_of_le A114_bm113.lt (Nat.le_of_eq g115.symm))
  have A115_bm113 := A114_bm113.ext E115
  have lt_bm114_b115 : bm114 < b115 := Nat.lt_of_lt_of_le Ax114.lt (Nat.le_of_eq g115.symm)
  have ne_bm114_b115 : bm114 ≠ b115 := Nat.ne_of_lt (Nat.lt_of_lt_of_le Ax114.lt (Nat.le_of_eq g115.symm))
  have A115_bm114 := Ax114.ext E115
  have F115_bm113_cents := F114_bm113_cents.ext E115
  have F115_bm114_cents := Fx114.ext E115
  have S115_DEFAULTCAPACITY_EMPTY_ELEMENTDATA := Sk114.ext E115
  have ga_b115 : n0 ≤ b115 := Nat.le_trans Z0 q115
  have Zn115 : n0 ≤ h115.size := Nat.le_trans Zn114 E115.1
  have F115_modCount : Fld Z h115 b115 "java/util/AbstractList" "modCount" "I" (.int (0 : Int32)) := D115 (Or.inl (own_w43 hw)) (ty := .int) (by decide)
  have F115_elementData : Fld Z h115 b115 "java/util/ArrayList" "elementData" "[Ljava/lang/Object;" .null := D115 (Or.inl (own_w46 hw)) (ty := (.array (.object "java/lang/Object"))) (by decide)
  have F115_size : Fld Z h115 b115 "java/util/ArrayList" "size" "I" (.int (0 : Int32)) := D115 (Or.inl (own_w55 hw)) (ty := .int) (by decide)
  refine own_st (f' := (mkF m 51 #[.val (.int p0), .val (.int p1), .val (.int p2), .val (.long q3), .second, .val (.long q4), .second, .val (.int (own_t0_3 p0 p1 p2 q3 q4)), .val (.int (own_t0_16 p0 p1 p2 q3 q4)), .val (.ref bm113), .val (.ref bm114), .unset, .unset, .unset, .unset, .unset] [(.ref b115), (.ref b115)])) (fun t k => XS.dup X115.her hx rfl (hb hby at_50) rfl rfl k) ?_
  refine own_callC (y := (⟨"java/util/ArrayList", "<init>", "()V"⟩ : MethodName)) (W := 1) [] X115 hx hZ hown rfl (own_w26 hw) (own_w27 hw) (own_w25 hw) (own_w28 hw) (by decide) (own_c6 l Z a0 hw h115 n0 Zn115 b115 vd A115 F115_size F115_elementData F115_modCount ga_b115 S115_DEFAULTCAPACITY_EMPTY_ELEMENTDATA) (allS (Or.inr q115) all0) (by decide) (by decide) (by decide) (by decide) (by rw [hml]; rfl) own_pd1 rfl rfl (Nat.le_of_eq rfl) (hb hby at_51) ?_
  rintro v116 T116 h116 X116 K116 ⟨rfl, Ea116, Fs116, Fe116, Fm116⟩
  have B116_vd := B115_vd.keep K116 (ninS ne_vd_b115 nin0)
  have F116_bm113_cents := F115_bm113_cents.keep K116 (ninS ne_bm113_b115 nin0)
  have F116_bm114_cents := F115_bm114_cents.keep K116 (ninS ne_bm114_b115 nin0)
  have A116_bm113 := A115_bm113.keep K116
  have A116_bm114 := A115_bm114.keep K116
  have A116_b115 := A115.keep K116
  have Zn116 : n0 ≤ h116.size := Nat.le_trans Zn115 K116.1
  have Sk116 := own_Sta_keep S115_DEFAULTCAPACITY_EMPTY_ELEMENTDATA K116 (allS (own_exa_ns A115) all0)
  show own_G p e below _ T116 (mkF m 54 #[.val (.int p0), .val (.int p1), .val (.int p2), .val (.long q3), .second, .val (.long q4), .second, .val (.int (own_t0_3 p0 p1 p2 q3 q4)), .val (.int (own_t0_16 p0 p1 p2 q3 q4)), .val (.ref bm113), .val (.ref bm114), .unset, .unset, .unset, .unset, .unset] [(.ref b115)])
  refine own_st (f' := (mkF m 56 #[.val (.int p0), .val (.int p1), .val (.int p2), .val (.long q3), .second, .val (.long q4), .second, .val (.int (own_t0_3 p0 p1 p2 q3 q4)), .val (.int (own_t0_16 p0 p1 p2 q3 q4)), .val (.ref bm113), .val (.ref bm114), .val (.ref b115), .unset, .unset, .unset, .unset] [])) (fun t k => XS.astore X116.her hx rfl (hb hby at_54) rfl rfl (l' := #[.val (.int p0), .val (.int p1), .val (.int p2), .val (.long q3), .second, .val (.long q4), .second, .val (.int (own_t0_3 p0 p1 p2 q3 q4)), .val (.int (own_t0_16 p0 p1 p2 q3 q4)), .val (.ref bm113), .val (.ref bm114), .val (.ref b115), .unset, .unset, .unset, .unset]) rfl k) ?_
  refine own_st (f' := (mkF m 58 #[.val (.int p0), .val (.int p1), .val (.int p2), .val (.long q3), .second, .val (.long q4), .second, .val (.int (own_t0_3 p0 p1 p2 q3 q4)), .val (.int (own_t0_16 p0 p1 p2 q3 q4)), .val (.ref bm113), .val (.ref bm114), .val (.ref b115), .unset, .unset, .unset, .unset] [(.int (own_t0_3 p0 p1 p2 q3 q4))])) (fun t k => XS.iload X116.her hx rfl (hb hby at_56) rfl k) ?_
  by_cases hc117 : (0 : Int32) < (own_t0_3 p0 p1 p2 q3 q4)
  · refine own_st (f' := (mkF m 61 #[.val (.int p0), .val (.int p1), .val (.int p2), .val (.long q3), .second, .val (.long q4), .second, .val (.int (own_t0_3 p0 p1 p2 q3 q4)), .val (.int (own_t0_16 p0 p1 p2 q3 q4)), .val (.ref bm113), .val (.ref bm114), .val (.ref b115), .unset, .unset, .unset, .unset] [])) (fun t k => XS.ifNo X116.her hx rfl (hb hby at_58) rfl ((if0 _ _).trans (tlt hc117).2.2.2) k) ?_
    refine own_st (f' := (mkF m 63 #[.val (.int p0), .val (.int p1), .val (.int p2), .val (.long q3), .second, .val (.long q4), .second, .val (.int (own_t0_3 p0 p1 p2 q3 q4)), .val (.int (own_t0_16 p0 p1 p2 q3 q4)), .val (.ref bm113), .val (.ref bm114), .val (.ref b115), .unset, .unset, .unset, .unset] [(.ref b115)])) (fun t k => XS.aload X116.her hx rfl (hb hby at_61) rfl rfl k) ?_
    refine own_st (f' := (mkF m 65 #[.val (.int p0), .val (.int p1), .val (.int p2), .val (.long q3), .second, .val (.long q4), .second, .val (.int (own_t0_3 p0 p1 p2 q3 q4)), .val (.int (own_t0_16 p0 p1 p2 q3 q4)), .val (.ref bm113), .val (.ref bm114), .val (.ref b115), .unset, .unset, .unset, .unset] [(.ref bm113), (.ref b115)])) (fun t k => XS.aload X116.her hx rfl (hb hby at_63) rfl rfl k) ?_
    refine own_callV (y := (⟨"java/util/ArrayList", "add", "(Ljava/lang/Object;)Z"⟩ : MethodName)) (W := 0) [(.ref bm113)] X116 hx hZ hown (own_w47 hw) (own_w48 hw) (own_w50 hw) (own_w49 hw) (own_w25 hw) (own_w51 hw) (by decide) Ea116 (own_add0 l Z a0 hw h116 n0 Zn116 b115 bm113 vd Ea116 Fs116 Fe116 Fm116 A116_bm113 B116_vd Sk116 ga_b115 ne_vd_b115) (allS (Or.inr q115) all0) (by decide) (by decide) (by decide) (by decide) (by rw [hml]; rfl) own_pd5 rfl rfl (Nat.le_of_eq rfl) (hb hby at_65) ?_
    rintro v118 T118 h118 X118 K118 ⟨rfl, bg118, qg118, Ea118, Fs118, Fe118, Fm118, Bg118⟩
    have B118_vd := B116_vd.keep K118 (ninS ne_vd_b115 nin0)
    have F118_bm113_cents := F116_bm113_cents.keep K118 (ninS ne_bm113_b115 nin0)
    have F118_bm114_cents := F116_bm114_cents.keep K118 (ninS ne_bm114_b115 nin0)
    have A118_bm113 := A116_bm113.keep K118
    have A118_bm114 := A116_bm114.keep K118
    have A118_b115 := Ea116.keep K118
    have Zn118 : n0 ≤ h118.size := Nat.le_trans Zn116 K118.1
    have ga_bg118 : n0 ≤ bg118 := Nat.le_trans Zn116 qg118
    have qa_bg118 : h0.size ≤ bg118 := Nat.le_trans X116.2.2.1 qg118
    have Sk118 := own_Sta_keep Sk116 K118 (allS (own_exa_ns Ea116) all0)
    have ne_bm113_bg118 : bm113 ≠ bg118 := Nat.ne_of_lt (Nat.lt_of_lt_of_le A116_bm113.lt qg118)
    have ne_bm114_bg118 : bm114 ≠ bg118 := Nat.ne_of_lt (Nat.lt_of_lt_of_le A116_bm114.lt qg118)
    have ne_b115_bg118 : b115 ≠ bg118 := Nat.ne_of_lt (Nat.lt_of_lt_of_le Ea116.lt qg118)
    have ne_vd_bg118 : vd ≠ bg118 := Nat.ne_of_lt (Nat.lt_of_lt_of_le B116_vd.lt qg118)
    show own_G p e below _ T118 (mkF m 68 #[.val (.int p0), .val (.int p1), .val (.int p2), .val (.long q3), .second, .val (.long q4), .second, .val (.int (own_t0_3 p0 p1 p2 q3 q4)), .val (.int (own_t0_16 p0 p1 p2 q3 q4)), .val (.ref bm113), .val (.ref bm114), .val (.ref b115), .unset, .unset, .unset, .unset] [(.int (1 : Int32))])
    refine own_st (f' := (mkF m 69 #[.val (.int p0), .val (.int p1), .val (.int p2), .val (.long q3), .second, .val (.long q4), .second, .val (.int (own_t0_3 p0 p1 p2 q3 q4)), .val (.int (own_t0_16 p0 p1 p2 q3 q4)), .val (.ref bm113), .val (.ref bm114), .val (.ref b115), .unset, .unset, .unset, .unset] [])) (fun t k => XS.pop X118.her hx rfl (hb hby at_68) rfl rfl k) ?_
    refine own_st (f' := (mkF m 71 #[.val (.int p0), .val (.int p1), .val (.int p2), .val (.long q3), .second, .val (.long q4), .second, .val (.int (own_t0_3 p0 p1 p2 q3 q4)), .val (.int (own_t0_16 p0 p1 p2 q3 q4)), .val (.ref bm113), .val (.ref bm114), .val (.ref b115), .unset, .unset, .unset, .unset] [(.int (own_t0_3 p0 p1 p2 q3 q4))])) (fun t k => XS.iload X118.her hx rfl (hb hby at_69) rfl k) ?_
    refine own_st (f' := (mkF m 72 #[.val (.int p0), .val (.int p1), .val (.int p2), .val (.long q3), .second, .val (.long q4), .second, .val (.int (own_t0_3 p0 p1 p2 q3 q4)), .val (.int (own_t0_16 p0 p1 p2 q3 q4)), .val (.ref bm113), .val (.ref bm114), .val (.ref b115), .unset, .unset, .unset, .unset] [(.int (1 : Int32)), (.int (own_t0_3 p0 p1 p2 q3 q4))])) (fun t k => XS.iconst X118.her hx rfl (hb hby at_71) k) ?_
    by_cases hc119 : (1 : Int32) < (own_t0_3 p0 p1 p2 q3 q4)
    · refine own_st (f' := (mkF m 75 #[.val (.int p0), .val (.int p1), .val (.int p2), .val (.long q3), .second, .val (.long q4), .second, .val (.int (own_t0_3 p0 p1 p2 q3 q4)), .val (.int (own_t0_16 p0 p1 p2 q3 q4)), .val (.ref bm113), .val (.ref bm114), .val (.ref b115), .unset, .unset, .unset, .unset] [])) (fun t k => XS.icmpNo X118.her hx rfl (hb hby at_72) rfl (tlt hc119).2.2.2 k) ?_
      refine own_st (f' := (mkF m 77 #[.val (.int p0), .val (.int p1), .val (.int p2), .val (.long q3), .second, .val (.long q4), .second, .val (.int (own_t0_3 p0 p1 p2 q3 q4)), .val (.int (own_t0_16 p0 p1 p2 q3 q4)), .val (.ref bm113), .val (.ref bm114), .val (.ref b115), .unset, .unset, .unset, .unset] [(.ref b115)])) (fun t k => XS.aload X118.her hx rfl (hb hby at_75) rfl rfl k) ?_
      refine own_st (f' := (mkF m 79 #[.val (.int p0), .val (.int p1), .val (.int p2), .val (.long q3), .second, .val (.long q4), .second, .val (.int (own_t0_3 p0 p1 p2 q3 q4)), .val (.int (own_t0_16 p0 p1 p2 q3 q4)), .val (.ref bm113), .val (.ref bm114), .val (.ref b115), .unset, .unset, .unset, .unset] [(.ref bm114), (.ref b115)])) (fun t k => XS.aload X118.her hx rfl (hb hby at_77) rfl rfl k) ?_
      refine own_callV (y := (⟨"java/util/ArrayList", "add", "(Ljava/lang/Object;)Z"⟩ : MethodName)) (W := 0) [(.ref bm114)] X118 hx hZ hown (own_w47 hw) (own_w48 hw) (own_w50 hw) (own_w49 hw) (own_w25 hw) (own_w51 hw) (by decide) Ea118 (own_add1 l Z a0 hw h118 n0 Zn118 b115 bm114 bg118 bm113 Ea118 Fs118 Fe118 Fm118 A118_bm114 Bg118 ga_b115 ga_bg118 ne_b115_bg118) (allS (Or.inr q115) (allS (Or.inr qa_bg118) all0)) (by decide) (by decide) (by decide) (by decide) (by rw [hml]; rfl) own_pd5 rfl rfl (Nat.le_of_eq rfl) (hb hby at_79) ?_
      rintro v120 T120 h120 X120 K120 ⟨rfl, Ea120, Fs120, Fe120, Fm120, Bg120⟩
      have B120_vd := B118_vd.keep K120 (ninS ne_vd_b115 (ninS ne_vd_bg118 nin0))
      have F120_bm113_cents := F118_bm113_cents.keep K120 (ninS ne_bm113_b115 (ninS ne_bm113_bg118 nin0))
      have F120_bm114_cents := F118_bm114_cents.keep K120 (ninS ne_bm114_b115 (ninS ne_bm114_bg118 nin0))
      have A120_bm113 := A118_bm113.keep K120
      have A120_bm114 := A118_bm114.keep K120
      have A120_b115 := Ea118.keep K120
      have Zn120 : n0 ≤ h120.size := Nat.le_trans Zn118 K120.1
      have Sk120 := own_Sta_keep Sk118 K120 (allS (own_exa_ns Ea118) (allS (own_ra_ns Bg118) all0))
      show own_G p e below _ T120 (mkF m 82 #[.val (.int p0), .val (.int p1), .val (.int p2), .val (.long q3), .second, .val (.long q4), .second, .val (.int (own_t0_3 p0 p1 p2 q3 q4)), .val (.int (own_t0_16 p0 p1 p2 q3 q4)), .val (.ref bm113), .val (.ref bm114), .val (.ref b115), .unset, .unset, .unset, .unset] [(.int (1 : Int32))])
      refine own_st (f' := (mkF m 83 #[.val (.int p0), .val (.int p1), .val (.int p2), .val (.long q3), .second, .val (.long q4), .second, .val (.int (own_t0_3 p0 p1 p2 q3 q4)), .val (.int (own_t0_16 p0 p1 p2 q3 q4)), .val (.ref bm113), .val (.ref bm114), .val (.ref b115), .unset, .unset, .unset, .unset] [])) (fun t k => XS.pop X120.her hx rfl (hb hby at_82) rfl rfl k) ?_
      refine own_st (f' := (mkF m 85 #[.val (.int p0), .val (.int p1), .val (.int p2), .val (.long q3), .second, .val (.long q4), .second, .val (.int (own_t0_3 p0 p1 p2 q3 q4)), .val (.int (own_t0_16 p0 p1 p2 q3 q4)), .val (.ref bm113), .val (.ref bm114), .val (.ref b115), .unset, .unset, .unset, .unset] [(.int (own_t0_3 p0 p1 p2 q3 q4))])) (fun t k => XS.iload X120.her hx rfl (hb hby at_83) rfl k) ?_
      refine own_st (f' := (mkF m 86 #[.val (.int p0), .val (.int p1), .val (.int p2), .val (.long q3), .second, .val (.long q4), .second, .val (.int (own_t0_3 p0 p1 p2 q3 q4)), .val (.int (own_t0_16 p0 p1 p2 q3 q4)), .val (.ref bm113), .val (.ref bm114), .val (.ref b115), .unset, .unset, .unset, .unset] [(.int (2 : Int32)), (.int (own_t0_3 p0 p1 p2 q3 q4))])) (fun t k => XS.iconst X120.her hx rfl (hb hby at_85) k) ?_
      by_cases hc121 : (2 : Int32) < (own_t0_3 p0 p1 p2 q3 q4)
      · refine own_st (f' := (mkF m 89 #[.val (.int p0), .val (.int p1), .val (.int p2), .val (.long q3), .second, .val (.long q4), .second, .val (.int (own_t0_3 p0 p1 p2 q3 q4)), .val (.int (own_t0_16 p0 p1 p2 q3 q4)), .val (.ref bm113), .val (.ref bm114), .val (.ref b115), .unset, .unset, .unset, .unset] [])) (fun t k => XS.icmpNo X120.her hx rfl (hb hby at_86) rfl (tlt hc121).2.2.2 k) ?_
        refine own_st (f' := (mkF m 91 #[.val (.int p0), .val (.int p1), .val (.int p2), .val (.long q3), .second, .val (.long q4), .second, .val (.int (own_t0_3 p0 p1 p2 q3 q4)), .val (.int (own_t0_16 p0 p1 p2 q3 q4)), .val (.ref bm113), .val (.ref bm114), .val (.ref b115), .unset, .unset, .unset, .unset] [(.ref b115)])) (fun t k => XS.aload X120.her hx rfl (hb hby at_89) rfl rfl k) ?_
        refine own_st (f' := (mkF m 93 #[.val (.int p0), .val (.int p1), .val (.int p2), .val (.long q3), .second, .val (.long q4), .second, .val (.int (own_t0_3 p0 p1 p2 q3 q4)), .val (.int (own_t0_16 p0 p1 p2 q3 q4)), .val (.ref bm113), .val (.ref bm114), .val (.ref b115), .unset, .unset, .unset, .unset] [(.ref bm113), (.ref b115)])) (fun t k => XS.aload X120.her hx rfl (hb hby at_91) rfl rfl k) ?_
        refine own_callV (y := (⟨"java/util/ArrayList", "add", "(Ljava/lang/Object;)Z"⟩ : MethodName)) (W := 0) [(.ref bm113)] X120 hx hZ hown (own_w47 hw) (own_w48 hw) (own_w50 hw) (own_w49 hw) (own_w25 hw) (own_w51 hw) (by decide) Ea120 (own_add2 l Z a0 hw h120 n0 Zn120 b115 bm113 bg118 bm113 bm114 Ea120 Fs120 Fe120 Fm120 A120_bm113 Bg120 ga_b115 ga_bg118 ne_b115_bg118) (allS (Or.inr q115) (allS (Or.inr qa_bg118) all0)) (by decide) (by decide) (by decide) (by decide) (by rw [hml]; rfl) own_pd5 rfl rfl (Nat.le_of_eq rfl) (hb hby at_93) ?_
        rintro v122 T122 h122 X122 K122 ⟨rfl, Ea122, Fs122, Fe122, Fm122, Bg122⟩
        have B122_vd := B120_vd.keep K122 (ninS ne_vd_b115 (ninS ne_vd_bg118 nin0))
        have F122_bm113_cents := F120_bm113_cents.keep K122 (ninS ne_bm113_b115 (ninS ne_bm113_bg118 nin0))
        have F122_bm114_cents := F120_bm114_cents.keep K122 (ninS ne_bm114_b115 (ninS ne_bm114_bg118 nin0))
        have A122_bm113 := A120_bm113.keep K122
        have A122_bm114 := A120_bm114.keep K122
        have A122_b115 := Ea120.keep K122
        have Zn122 : n0 ≤ h122.size := Nat.le_trans Zn120 K122.1
        have Sk122 := own_Sta_keep Sk120 K122 (allS (own_exa_ns Ea120) (allS (own_ra_ns Bg120) all0))
        show own_G p e below _ T122 (mkF m 96 #[.val (.int p0), .val (.int p1), .val (.int p2), .val (.long q3), .second, .val (.long q4), .second, .val (.int (own_t0_3 p0 p1 p2 q3 q4)), .val (.int (own_t0_16 p0 p1 p2 q3 q4)), .val (.ref bm113), .val (.ref bm114), .val (.ref b115), .unset, .unset, .unset, .unset] [(.int (1 : Int32))])
        refine own_st (f' := (mkF m 97 #[.val (.int p0), .val (.int p1), .val (.int p2), .val (.long q3), .second, .val (.long q4), .second, .val (.int (own_t0_3 p0 p1 p2 q3 q4)), .val (.int (own_t0_16 p0 p1 p2 q3 q4)), .val (.ref bm113), .val (.ref bm114), .val (.ref b115), .unset, .unset, .unset, .unset] [])) (fun t k => XS.pop X122.her hx rfl (hb hby at_96) rfl rfl k) ?_
        refine own_newO X122 hx hZ hown (own_w23 hw) (own_w24 hw) (own_w25 hw) (hb hby at_97) (by decide) (by decide) ?_
        intro T123 h123 b123 g123 q123 X123 E123 A123 D123
        have lt_vd_b123 : vd < b123 := Nat.lt_of_lt_of_le B122_vd.lt (Nat.le_of_eq g123.symm)
        have ne_vd_b123 : vd ≠ b123 := Nat.ne_of_lt (Nat.lt_of_lt_of_le B122_vd.lt (Nat.le_of_eq g123.symm))
        have B123_vd := B122_vd.ext E123
        have lt_bg118_b123 : bg118 < b123 := Nat.lt_of_lt_of_le Bg122.lt (Nat.le_of_eq g123.symm)
        have ne_bg118_b123 : bg118 ≠ b123 := Nat.ne_of_lt (Nat.lt_of_lt_of_le Bg122.lt (Nat.le_of_eq g123.symm))
        have B123_bg118 := Bg122.ext E123
        have lt_bm113_b123 : bm113 < b123 := Nat.lt_of_lt_of_le A122_bm113.lt (Nat.le_of_eq g123.symm)
        have ne_bm113_b123 : bm113 ≠ b123 := Nat.ne_of_lt (Nat.lt_of_lt_of_le A122_bm113.lt (Nat.le_of_eq g123.symm))
        have A123_bm113 := A122_bm113.ext E123
        have lt_bm114_b123 : bm114 < b123 := Nat.lt_of_lt_of_le A122_bm114.lt (Nat.le_of_eq g123.symm)
        have ne_bm114_b123 : bm114 ≠ b123 := Nat.ne_of_lt (Nat.lt_of_lt_of_le A122_bm114.lt (Nat.le_of_eq g123.symm))
        have A123_bm114 := A122_bm114.ext E123
        have lt_b115_b123 : b115 < b123 := Nat.lt_of_lt_of_le Ea122.lt (Nat.le_of_eq g123.symm)
        have ne_b115_b123 : b115 ≠ b123 := Nat.ne_of_lt (Nat.lt_of_lt_of_le Ea122.lt (Nat.le_of_eq g123.symm))
        have A123_b115 := Ea122.ext E123
        have F123_bm113_cents := F122_bm113_cents.ext E123
        have F123_bm114_cents := F122_bm114_cents.ext E123
        have F123_b115_modCount := Fm122.ext E123
        have F123_b115_elementData := Fe122.ext E123
        have F123_b115_size := Fs122.ext E123
        have S123_DEFAULTCAPACITY_EMPTY_ELEMENTDATA := Sk122.ext E123
        have ga_b123 : n0 ≤ b123 := Nat.le_trans Z0 q123
        have Zn123 : n0 ≤ h123.size := Nat.le_trans Zn122 E123.1
        have F123_modCount : Fld Z h123 b123 "java/util/AbstractList" "modCount" "I" (.int (0 : Int32)) := D123 (Or.inl (own_w43 hw)) (ty := .int) (by decide)
        have F123_elementData : Fld Z h123 b123 "java/util/ArrayList" "elementData" "[Ljava/lang/Object;" .null := D123 (Or.inl (own_w46 hw)) (ty := (.array (.object "java/lang/Object"))) (by decide)
        have F123_size : Fld Z h123 b123 "java/util/ArrayList" "size" "I" (.int (0 : Int32)) := D123 (Or.inl (own_w55 hw)) (ty := .int) (by decide)
        refine own_st (f' := (mkF m 101 #[.val (.int p0), .val (.int p1), .val (.int p2), .val (.long q3), .second, .val (.long q4), .second, .val (.int (own_t0_3 p0 p1 p2 q3 q4)), .val (.int (own_t0_16 p0 p1 p2 q3 q4)), .val (.ref bm113), .val (.ref bm114), .val (.ref b115), .unset, .unset, .unset, .unset] [(.ref b123), (.ref b123)])) (fun t k => XS.dup X123.her hx rfl (hb hby at_100) rfl rfl k) ?_
        refine own_callC (y := (⟨"java/util/ArrayList", "<init>", "()V"⟩ : MethodName)) (W := 1) [] X123 hx hZ hown rfl (own_w26 hw) (own_w27 hw) (own_w25 hw) (own_w28 hw) (by decide) (own_c6 l Z a0 hw h123 n0 Zn123 b123 vd A123 F123_size F123_elementData F123_modCount ga_b123 S123_DEFAULTCAPACITY_EMPTY_ELEMENTDATA) (allS (Or.inr q123) all0) (by decide) (by decide) (by decide) (by decide) (by rw [hml]; rfl) own_pd1 rfl rfl (Nat.le_of_eq rfl) (hb hby at_101) ?_
        rintro v124 T124 h124 X124 K124 ⟨rfl, Ea124, Fs124, Fe124, Fm124⟩
        have B124_vd := B123_vd.keep K124 (ninS ne_vd_b123 nin0)
        have B124_bg118 := B123_bg118.keep K124 (ninS ne_bg118_b123 nin0)
        have F124_bm113_cents := F123_bm113_cents.keep K124 (ninS ne_bm113_b123 nin0)
        have F124_bm114_cents := F123_bm114_cents.keep K124 (ninS ne_bm114_b123 nin0)
        have F124_b115_modCount := F123_b115_modCount.keep K124 (ninS ne_b115_b123 nin0)
        have F124_b115_elementData := F123_b115_elementData.keep K124 (ninS ne_b115_b123 nin0)
        have F124_b115_size := F123_b115_size.keep K124 (ninS ne_b115_b123 nin0)
        have A124_bm113 := A123_bm113.keep K124
        have A124_bm114 := A123_bm114.keep K124
        have A124_b115 := A123_b115.keep K124
        have A124_b123 := A123.keep K124
        have Zn124 : n0 ≤ h124.size := Nat.le_trans Zn123 K124.1
        have Sk124 := own_Sta_keep S123_DEFAULTCAPACITY_EMPTY_ELEMENTDATA K124 (allS (own_exa_ns A123) all0)
        show own_G p e below _ T124 (mkF m 104 #[.val (.int p0), .val (.int p1), .val (.int p2), .val (.long q3), .second, .val (.long q4), .second, .val (.int (own_t0_3 p0 p1 p2 q3 q4)), .val (.int (own_t0_16 p0 p1 p2 q3 q4)), .val (.ref bm113), .val (.ref bm114), .val (.ref b115), .unset, .unset, .unset, .unset] [(.ref b123)])
        refine own_st (f' := (mkF m 106 #[.val (.int p0), .val (.int p1), .val (.int p2), .val (.long q3), .second, .val (.long q4), .second, .val (.int (own_t0_3 p0 p1 p2 q3 q4)), .val (.int (own_t0_16 p0 p1 p2 q3 q4)), .val (.ref bm113), .val (.ref bm114), .val (.ref b115), .val (.ref b123), .unset, .unset, .unset] [])) (fun t k => XS.astore X124.her hx rfl (hb hby at_104) rfl rfl (l' := #[.val (.int p0), .val (.int p1), .val (.int p2), .val (.long q3), .second, .val (.long q4), .second, .val (.int (own_t0_3 p0 p1 p2 q3 q4)), .val (.int (own_t0_16 p0 p1 p2 q3 q4)), .val (.ref bm113), .val (.ref bm114), .val (.ref b115), .val (.ref b123), .unset, .unset, .unset]) rfl k) ?_
        refine own_st (f' := (mkF m 108 #[.val (.int p0), .val (.int p1), .val (.int p2), .val (.long q3), .second, .val (.long q4), .second, .val (.int (own_t0_3 p0 p1 p2 q3 q4)), .val (.int (own_t0_16 p0 p1 p2 q3 q4)), .val (.ref bm113), .val (.ref bm114), .val (.ref b115), .val (.ref b123), .unset, .unset, .unset] [(.int (own_t0_16 p0 p1 p2 q3 q4))])) (fun t k => XS.iload X124.her hx rfl (hb hby at_106) rfl k) ?_
        by_cases hc125 : (0 : Int32) < (own_t0_16 p0 p1 p2 q3 q4)
        · refine own_st (f' := (mkF m 111 #[.val (.int p0), .val (.int p1), .val (.int p2), .val (.long q3), .second, .val (.long q4), .second, .val (.int (own_t0_3 p0 p1 p2 q3 q4)), .val (.int (own_t0_16 p0 p1 p2 q3 q4)), .val (.ref bm113), .val (.ref bm114), .val (.ref b115), .val (.ref b123), .unset, .unset, .unset] [])) (fun t k => XS.ifNo X124.her hx rfl (hb hby at_108) rfl ((if0 _ _).trans (tlt hc125).2.2.2) k) ?_
          refine own_st (f' := (mkF m 113 #[.val (.int p0), .val (.int p1), .val (.int p2), .val (.long q3), .second, .val (.long q4), .second, .val (.int (own_t0_3 p0 p1 p2 q3 q4)), .val (.int (own_t0_16 p0 p1 p2 q3 q4)), .val (.ref bm113), .val (.ref bm114), .val (.ref b115), .val (.ref b123), .unset, .unset, .unset] [(.ref b123)])) (fun t k => XS.aload X124.her hx rfl (hb hby at_111) rfl rfl k) ?_
          refine own_st (f' := (mkF m 115 #[.val (.int p0), .val (.int p1), .val (.int p2), .val (.long q3), .second, .val (.long q4), .second, .val (.int (own_t0_3 p0 p1 p2 q3 q4)), .val (.int (own_t0_16 p0 p1 p2 q3 q4)), .val (.ref bm113), .val (.ref bm114), .val (.ref b115), .val (.ref b123), .unset, .unset, .unset] [(.ref bm114), (.ref b123)])) (fun t k => XS.aload X124.her hx rfl (hb hby at_113) rfl rfl k) ?_
          refine own_callV (y := (⟨"java/util/ArrayList", "add", "(Ljava/lang/Object;)Z"⟩ : MethodName)) (W := 0) [(.ref bm114)] X124 hx hZ hown (own_w47 hw) (own_w48 hw) (own_w50 hw) (own_w49 hw) (own_w25 hw) (own_w51 hw) (by decide) Ea124 (own_add0 l Z a0 hw h124 n0 Zn124 b123 bm114 vd Ea124 Fs124 Fe124 Fm124 A124_bm114 B124_vd Sk124 ga_b123 ne_vd_b123) (allS (Or.inr q123) all0) (by decide) (by decide) (by decide) (by decide) (by rw [hml]; rfl) own_pd5 rfl rfl (Nat.le_of_eq rfl) (hb hby at_115) ?_
          rintro v126 T126 h126 X126 K126 ⟨rfl, bg126, qg126, Ea126, Fs126, Fe126, Fm126, Bg126⟩
          have B126_vd := B124_vd.keep K126 (ninS ne_vd_b123 nin0)
          have B126_bg118 := B124_bg118.keep K126 (ninS ne_bg118_b123 nin0)
          have F126_bm113_cents := F124_bm113_cents.keep K126 (ninS ne_bm113_b123 nin0)
          have F126_bm114_cents := F124_bm114_cents.keep K126 (ninS ne_bm114_b123 nin0)
          have F126_b115_modCount := F124_b115_modCount.keep K126 (ninS ne_b115_b123 nin0)
          have F126_b115_elementData := F124_b115_elementData.keep K126 (ninS ne_b115_b123 nin0)
          have F126_b115_size := F124_b115_size.keep K126 (ninS ne_b115_b123 nin0)
          have A126_bm113 := A124_bm113.keep K126
          have A126_bm114 := A124_bm114.keep K126
          have A126_b115 := A124_b115.keep K126
          have A126_b123 := Ea124.keep K126
          have Zn126 : n0 ≤ h126.size := Nat.le_trans Zn124 K126.1
          have ga_bg126 : n0 ≤ bg126 := Nat.le_trans Zn124 qg126
          have qa_bg126 : h0.size ≤ bg126 := Nat.le_trans X124.2.2.1 qg126
          have Sk126 := own_Sta_keep Sk124 K126 (allS (own_exa_ns Ea124) all0)
          have ne_bm113_bg126 : bm113 ≠ bg126 := Nat.ne_of_lt (Nat.lt_of_lt_of_le A124_bm113.lt qg126)
          have ne_bm114_bg126 : bm114 ≠ bg126 := Nat.ne_of_lt (Nat.lt_of_lt_of_le A124_bm114.lt qg126)
          have ne_b115_bg126 : b115 ≠ bg126 := Nat.ne_of_lt (Nat.lt_of_lt_of_le A124_b115.lt qg126)
          have ne_b123_bg126 : b123 ≠ bg126 := Nat.ne_of_lt (Nat.lt_of_lt_of_le Ea124.lt qg126)
          have ne_vd_bg126 : vd ≠ bg126 := Nat.ne_of_lt (Nat.lt_of_lt_of_le B124_vd.lt qg126)
          have ne_bg118_bg126 : bg118 ≠ bg126 := Nat.ne_of_lt (Nat.lt_of_lt_of_le B124_bg118.lt qg126)
          show own_G p e below _ T126 (mkF m 118 #[.val (.int p0), .val (.int p1), .val (.int p2), .val (.long q3), .second, .val (.long q4), .second, .val (.int (own_t0_3 p0 p1 p2 q3 q4)), .val (.int (own_t0_16 p0 p1 p2 q3 q4)), .val (.ref bm113), .val (.ref bm114), .val (.ref b115), .val (.ref b123), .unset, .unset, .unset] [(.int (1 : Int32))])
          refine own_st (f' := (mkF m 119 #[.val (.int p0), .val (.int p1), .val (.int p2), .val (.long q3), .second, .val (.long q4), .second, .val (.int (own_t0_3 p0 p1 p2 q3 q4)), .val (.int (own_t0_16 p0 p1 p2 q3 q4)), .val (.ref bm113), .val (.ref bm114), .val (.ref b115), .val (.ref b123), .unset, .unset, .unset] [])) (fun t k => XS.pop X126.her hx rfl (hb hby at_118) rfl rfl k) ?_
          refine own_st (f' := (mkF m 121 #[.val (.int p0), .val (.int p1), .val (.int p2), .val (.long q3), .second, .val (.long q4), .second, .val (.int (own_t0_3 p0 p1 p2 q3 q4)), .val (.int (own_t0_16 p0 p1 p2 q3 q4)), .val (.ref bm113), .val (.ref bm114), .val (.ref b115), .val (.ref b123), .unset, .unset, .unset] [(.int (own_t0_16 p0 p1 p2 q3 q4))])) (fun t k => XS.iload X126.her hx rfl (hb hby at_119) rfl k) ?_
          refine own_st (f' := (mkF m 122 #[.val (.int p0), .val (.int p1), .val (.int p2), .val (.long q3), .second, .val (.long q4), .second, .val (.int (own_t0_3 p0 p1 p2 q3 q4)), .val (.int (own_t0_16 p0 p1 p2 q3 q4)), .val (.ref bm113), .val (.ref bm114), .val (.ref b115), .val (.ref b123), .unset, .unset, .unset] [(.int (1 : Int32)), (.int (own_t0_16 p0 p1 p2 q3 q4))])) (fun t k => XS.iconst X126.her hx rfl (hb hby at_121) k) ?_
          by_cases hc127 : (1 : Int32) < (own_t0_16 p0 p1 p2 q3 q4)
          · refine own_st (f' := (mkF m 125 #[.val (.int p0), .val (.int p1), .val (.int p2), .val (.long q3), .second, .val (.long q4), .second, .val (.int (own_t0_3 p0 p1 p2 q3 q4)), .val (.int (own_t0_16 p0 p1 p2 q3 q4)), .val (.ref bm113), .val (.ref bm114), .val (.ref b115), .val (.ref b123), .unset, .unset, .unset] [])) (fun t k => XS.icmpNo X126.her hx rfl (hb hby at_122) rfl (tlt hc127).2.2.2 k) ?_
            refine own_st (f' := (mkF m 127 #[.val (.int p0), .val (.int p1), .val (.int p2), .val (.long q3), .second, .val (.long q4), .second, .val (.int (own_t0_3 p0 p1 p2 q3 q4)), .val (.int (own_t0_16 p0 p1 p2 q3 q4)), .val (.ref bm113), .val (.ref bm114), .val (.ref b115), .val (.ref b123), .unset, .unset, .unset] [(.ref b123)])) (fun t k => XS.aload X126.her hx rfl (hb hby at_125) rfl rfl k) ?_
            refine own_st (f' := (mkF m 129 #[.val (.int p0), .val (.int p1), .val (.int p2), .val (.long q3), .second, .val (.long q4), .second, .val (.int (own_t0_3 p0 p1 p2 q3 q4)), .val (.int (own_t0_16 p0 p1 p2 q3 q4)), .val (.ref bm113), .val (.ref bm114), .val (.ref b115), .val (.ref b123), .unset, .unset, .unset] [(.ref bm113), (.ref b123)])) (fun t k => XS.aload X126.her hx rfl (hb hby at_127) rfl rfl k) ?_
            refine own_callV (y := (⟨"java/util/ArrayList", "add", "(Ljava/lang/Object;)Z"⟩ : MethodName)) (W := 0) [(.ref bm113)] X126 hx hZ hown (own_w47 hw) (own_w48 hw) (own_w50 hw) (own_w49 hw) (own_w25 hw) (own_w51 hw) (by decide) Ea126 (own_add1 l Z a0 hw h126 n0 Zn126 b123 bm113 bg126 bm114 Ea126 Fs126 Fe126 Fm126 A126_bm113 Bg126 ga_b123 ga_bg126 ne_b123_bg126) (allS (Or.inr q123) (allS (Or.inr qa_bg126) all0)) (by decide) (by decide) (by decide) (by decide) (by rw [hml]; rfl) own_pd5 rfl rfl (Nat.le_of_eq rfl) (hb hby at_129) ?_
            rintro v128 T128 h128 X128 K128 ⟨rfl, Ea128, Fs128, Fe128, Fm128, Bg128⟩
            have B128_vd := B126_vd.keep K128 (ninS ne_vd_b123 (ninS ne_vd_bg126 nin0))
            have B128_bg118 := B126_bg118.keep K128 (ninS ne_bg118_b123 (ninS ne_bg118_bg126 nin0))
            have F128_bm113_cents := F126_bm113_cents.keep K128 (ninS ne_bm113_b123 (ninS ne_bm113_bg126 nin0))
            have F128_bm114_cents := F126_bm114_cents.keep K128 (ninS ne_bm114_b123 (ninS ne_bm114_bg126 nin0))
            have F128_b115_modCount := F126_b115_modCount.keep K128 (ninS ne_b115_b123 (ninS ne_b115_bg126 nin0))
            have F128_b115_elementData := F126_b115_elementData.keep K128 (ninS ne_b115_b123 (ninS ne_b115_bg126 nin0))
            have F128_b115_size := F126_b115_size.keep K128 (ninS ne_b115_b123 (ninS ne_b115_bg126 nin0))
            have A128_bm113 := A126_bm113.keep K128
            have A128_bm114 := A126_bm114.keep K128
            have A128_b115 := A126_b115.keep K128
            have A128_b123 := Ea126.keep K128
            have Zn128 : n0 ≤ h128.size := Nat.le_trans Zn126 K128.1
            have Sk128 := own_Sta_keep Sk126 K128 (allS (own_exa_ns Ea126) (allS (own_ra_ns Bg126) all0))
            show own_G p e below _ T128 (mkF m 132 #[.val (.int p0), .val (.int p1), .val (.int p2), .val (.long q3), .second, .val (.long q4), .second, .val (.int (own_t0_3 p0 p1 p2 q3 q4)), .val (.int (own_t0_16 p0 p1 p2 q3 q4)), .val (.ref bm113), .val (.ref bm114), .val (.ref b115), .val (.ref b123), .unset, .unset, .unset] [(.int (1 : Int32))])
            refine own_st (f' := (mkF m 133 #[.val (.int p0), .val (.int p1), .val (.int p2), .val (.long q3), .second, .val (.long q4), .second, .val (.int (own_t0_3 p0 p1 p2 q3 q4)), .val (.int (own_t0_16 p0 p1 p2 q3 q4)), .val (.ref bm113), .val (.ref bm114), .val (.ref b115), .val (.ref b123), .unset, .unset, .unset] [])) (fun t k => XS.pop X128.her hx rfl (hb hby at_132) rfl rfl k) ?_
            refine own_st (f' := (mkF m 135 #[.val (.int p0), .val (.int p1), .val (.int p2), .val (.long q3), .second, .val (.long q4), .second, .val (.int (own_t0_3 p0 p1 p2 q3 q4)), .val (.int (own_t0_16 p0 p1 p2 q3 q4)), .val (.ref bm113), .val (.ref bm114), .val (.ref b115), .val (.ref b123), .unset, .unset, .unset] [(.int (own_t0_16 p0 p1 p2 q3 q4))])) (fun t k => XS.iload X128.her hx rfl (hb hby at_133) rfl k) ?_
            refine own_st (f' := (mkF m 136 #[.val (.int p0), .val (.int p1), .val (.int p2), .val (.long q3), .second, .val (.long q4), .second, .val (.int (own_t0_3 p0 p1 p2 q3 q4)), .val (.int (own_t0_16 p0 p1 p2 q3 q4)), .val (.ref bm113), .val (.ref bm114), .val (.ref b115), .val (.ref b123), .unset, .unset, .unset] [(.int (2 : Int32)), (.int (own_t0_16 p0 p1 p2 q3 q4))])) (fun t k => XS.iconst X128.her hx rfl (hb hby at_135) k) ?_
            by_cases hc129 : (2 : Int32) < (own_t0_16 p0 p1 p2 q3 q4)
            · refine own_st (f' := (mkF m 139 #[.val (.int p0), .val (.int p1), .val (.int p2), .val (.long q3), .second, .val (.long q4), .second, .val (.int (own_t0_3 p0 p1 p2 q3 q4)), .val (.int (own_t0_16 p0 p1 p2 q3 q4)), .val (.ref bm113), .val (.ref bm114), .val (.ref b115), .val (.ref b123), .unset, .unset, .unset] [])) (fun t k => XS.icmpNo X128.her hx rfl (hb hby at_136) rfl (tlt hc129).2.2.2 k) ?_
              refine own_st (f' := (mkF m 141 #[.val (.int p0), .val (.int p1), .val (.int p2), .val (.long q3), .second, .val (.long q4), .second, .val (.int (own_t0_3 p0 p1 p2 q3 q4)), .val (.int (own_t0_16 p0 p1 p2 q3 q4)), .val (.ref bm113), .val (.ref bm114), .val (.ref b115), .val (.ref b123), .unset, .unset, .unset] [(.ref b123)])) (fun t k => XS.aload X128.her hx rfl (hb hby at_139) rfl rfl k) ?_
              refine own_st (f' := (mkF m 143 #[.val (.int p0), .val (.int p1), .val (.int p2), .val (.long q3), .second, .val (.long q4), .second, .val (.int (own_t0_3 p0 p1 p2 q3 q4)), .val (.int (own_t0_16 p0 p1 p2 q3 q4)), .val (.ref bm113), .val (.ref bm114), .val (.ref b115), .val (.ref b123), .unset, .unset, .unset] [(.ref bm114), (.ref b123)])) (fun t k => XS.aload X128.her hx rfl (hb hby at_141) rfl rfl k) ?_
              refine own_callV (y := (⟨"java/util/ArrayList", "add", "(Ljava/lang/Object;)Z"⟩ : MethodName)) (W := 0) [(.ref bm114)] X128 hx hZ hown (own_w47 hw) (own_w48 hw) (own_w50 hw) (own_w49 hw) (own_w25 hw) (own_w51 hw) (by decide) Ea128 (own_add2 l Z a0 hw h128 n0 Zn128 b123 bm114 bg126 bm114 bm113 Ea128 Fs128 Fe128 Fm128 A128_bm114 Bg128 ga_b123 ga_bg126 ne_b123_bg126) (allS (Or.inr q123) (allS (Or.inr qa_bg126) all0)) (by decide) (by decide) (by decide) (by decide) (by rw [hml]; rfl) own_pd5 rfl rfl (Nat.le_of_eq rfl) (hb hby at_143) ?_
              rintro v130 T130 h130 X130 K130 ⟨rfl, Ea130, Fs130, Fe130, Fm130, Bg130⟩
              have B130_vd := B128_vd.keep K130 (ninS ne_vd_b123 (ninS ne_vd_bg126 nin0))
              have B130_bg118 := B128_bg118.keep K130 (ninS ne_bg118_b123 (ninS ne_bg118_bg126 nin0))
              have F130_bm113_cents := F128_bm113_cents.keep K130 (ninS ne_bm113_b123 (ninS ne_bm113_bg126 nin0))
              have F130_bm114_cents := F128_bm114_cents.keep K130 (ninS ne_bm114_b123 (ninS ne_bm114_bg126 nin0))
              have F130_b115_modCount := F128_b115_modCount.keep K130 (ninS ne_b115_b123 (ninS ne_b115_bg126 nin0))
              have F130_b115_elementData := F128_b115_elementData.keep K130 (ninS ne_b115_b123 (ninS ne_b115_bg126 nin0))
              have F130_b115_size := F128_b115_size.keep K130 (ninS ne_b115_b123 (ninS ne_b115_bg126 nin0))
              have A130_bm113 := A128_bm113.keep K130
              have A130_bm114 := A128_bm114.keep K130
              have A130_b115 := A128_b115.keep K130
              have A130_b123 := Ea128.keep K130
              have Zn130 : n0 ≤ h130.size := Nat.le_trans Zn128 K130.1
              have Sk130 := own_Sta_keep Sk128 K130 (allS (own_exa_ns Ea128) (allS (own_ra_ns Bg128) all0))
              show own_G p e below _ T130 (mkF m 146 #[.val (.int p0), .val (.int p1), .val (.int p2), .val (.long q3), .second, .val (.long q4), .second, .val (.int (own_t0_3 p0 p1 p2 q3 q4)), .val (.int (own_t0_16 p0 p1 p2 q3 q4)), .val (.ref bm113), .val (.ref bm114), .val (.ref b115), .val (.ref b123), .unset, .unset, .unset] [(.int (1 : Int32))])
              refine own_st (f' := (mkF m 147 #[.val (.int p0), .val (.int p1), .val (.int p2), .val (.long q3), .second, .val (.long q4), .second, .val (.int (own_t0_3 p0 p1 p2 q3 q4)), .val (.int (own_t0_16 p0 p1 p2 q3 q4)), .val (.ref bm113), .val (.ref bm114), .val (.ref b115), .val (.ref b123), .unset, .unset, .unset] [])) (fun t k => XS.pop X130.her hx rfl (hb hby at_146) rfl rfl k) ?_
              refine own_newO X130 hx hZ hown (own_w75 hw) (own_w76 hw) (own_w77 hw) (hb hby at_147) (by decide) (by decide) ?_
              intro T131 h131 b131 g131 q131 X131 E131 A131 D131
              have lt_vd_b131 : vd < b131 := Nat.lt_of_lt_of_le B130_vd.lt (Nat.le_of_eq g131.symm)
              have ne_vd_b131 : vd ≠ b131 := Nat.ne_of_lt (Nat.lt_of_lt_of_le B130_vd.lt (Nat.le_of_eq g131.symm))
              have B131_vd := B130_vd.ext E131
              have lt_bg118_b131 : bg118 < b131 := Nat.lt_of_lt_of_le B130_bg118.lt (Nat.le_of_eq g131.symm)
              have ne_bg118_b131 : bg118 ≠ b131 := Nat.ne_of_lt (Nat.lt_of_lt_of_le B130_bg118.lt (Nat.le_of_eq g131.symm))
              have B131_bg118 := B130_bg118.ext E131
              have lt_bg126_b131 : bg126 < b131 := Nat.lt_of_lt_of_le Bg130.lt (Nat.le_of_eq g131.symm)
              have ne_bg126_b131 : bg126 ≠ b131 := Nat.ne_of_lt (Nat.lt_of_lt_of_le Bg130.lt (Nat.le_of_eq g131.symm))
              have B131_bg126 := Bg130.ext E131
              have lt_bm113_b131 : bm113 < b131 := Nat.lt_of_lt_of_le A130_bm113.lt (Nat.le_of_eq g131.symm)
              have ne_bm113_b131 : bm113 ≠ b131 := Nat.ne_of_lt (Nat.lt_of_lt_of_le A130_bm113.lt (Nat.le_of_eq g131.symm))
              have A131_bm113 := A130_bm113.ext E131
              have lt_bm114_b131 : bm114 < b131 := Nat.lt_of_lt_of_le A130_bm114.lt (Nat.le_of_eq g131.symm)
              have ne_bm114_b131 : bm114 ≠ b131 := Nat.ne_of_lt (Nat.lt_of_lt_of_le A130_bm114.lt (Nat.le_of_eq g131.symm))
              have A131_bm114 := A130_bm114.ext E131
              have lt_b115_b131 : b115 < b131 := Nat.lt_of_lt_of_le A130_b115.lt (Nat.le_of_eq g131.symm)
              have ne_b115_b131 : b115 ≠ b131 := Nat.ne_of_lt (Nat.lt_of_lt_of_le A130_b115.lt (Nat.le_of_eq g131.symm))
              have A131_b115 := A130_b115.ext E131
              have lt_b123_b131 : b123 < b131 := Nat.lt_of_lt_of_le Ea130.lt (Nat.le_of_eq g131.symm)
              have ne_b123_b131 : b123 ≠ b131 := Nat.ne_of_lt (Nat.lt_of_lt_of_le Ea130.lt (Nat.le_of_eq g131.symm))
              have A131_b123 := Ea130.ext E131
              have F131_bm113_cents := F130_bm113_cents.ext E131
              have F131_bm114_cents := F130_bm114_cents.ext E131
              have F131_b115_modCount := F130_b115_modCount.ext E131
              have F131_b115_elementData := F130_b115_elementData.ext E131
              have F131_b115_size := F130_b115_size.ext E131
              have F131_b123_modCount := Fm130.ext E131
              have F131_b123_elementData := Fe130.ext E131
              have F131_b123_size := Fs130.ext E131
              have S131_DEFAULTCAPACITY_EMPTY_ELEMENTDATA := Sk130.ext E131
              have ga_b131 : n0 ≤ b131 := Nat.le_trans Z0 q131
              have Zn131 : n0 ≤ h131.size := Nat.le_trans Zn130 E131.1
              have F131_held : Fld Z h131 b131 "com/example/bidwright/bidwright/allocation/Supply" "held" "I" (.int (0 : Int32)) := D131 (Or.inr (own_w83 hw)) (ty := .int) (by decide)
              have F131_costs : Fld Z h131 b131 "com/example/bidwright/bidwright/allocation/Supply" "costs" "[J" .null := D131 (Or.inr (own_w129 hw)) (ty := (.array .long)) (by decide)
              have F131_revenues : Fld Z h131 b131 "com/example/bidwright/bidwright/allocation/Supply" "revenues" "[J" .null := D131 (Or.inr (own_w131 hw)) (ty := (.array .long)) (by decide)
              refine own_st (f' := (mkF m 151 #[.val (.int p0), .val (.int p1), .val (.int p2), .val (.long q3), .second, .val (.long q4), .second, .val (.int (own_t0_3 p0 p1 p2 q3 q4)), .val (.int (own_t0_16 p0 p1 p2 q3 q4)), .val (.ref bm113), .val (.ref bm114), .val (.ref b115), .val (.ref b123), .unset, .unset, .unset] [(.ref b131), (.ref b131)])) (fun t k => XS.dup X131.her hx rfl (hb hby at_150) rfl rfl k) ?_
              refine own_st (f' := (mkF m 152 #[.val (.int p0), .val (.int p1), .val (.int p2), .val (.long q3), .second, .val (.long q4), .second, .val (.int (own_t0_3 p0 p1 p2 q3 q4)), .val (.int (own_t0_16 p0 p1 p2 q3 q4)), .val (.ref bm113), .val (.ref bm114), .val (.ref b115), .val (.ref b123), .unset, .unset, .unset] [(.int p0), (.ref b131), (.ref b131)])) (fun t k => XS.iloadN X131.her hx rfl (hb hby at_151) rfl k) ?_
              refine own_st (f' := (mkF m 154 #[.val (.int p0), .val (.int p1), .val (.int p2), .val (.long q3), .second, .val (.long q4), .second, .val (.int (own_t0_3 p0 p1 p2 q3 q4)), .val (.int (own_t0_16 p0 p1 p2 q3 q4)), .val (.ref bm113), .val (.ref bm114), .val (.ref b115), .val (.ref b123), .unset, .unset, .unset] [(.ref b115), (.int p0), (.ref b131), (.ref b131)])) (fun t k => XS.aload X131.her hx rfl (hb hby at_152) rfl rfl k) ?_
              refine own_st (f' := (mkF m 156 #[.val (.int p0), .val (.int p1), .val (.int p2), .val (.long q3), .second, .val (.long q4), .second, .val (.int (own_t0_3 p0 p1 p2 q3 q4)), .val (.int (own_t0_16 p0 p1 p2 q3 q4)), .val (.ref bm113), .val (.ref bm114), .val (.ref b115), .val (.ref b123), .unset, .unset, .unset] [(.ref b123), (.ref b115), (.int p0), (.ref b131), (.ref b131)])) (fun t k => XS.aload X131.her hx rfl (hb hby at_154) rfl rfl k) ?_
              have LS132_2 : own_LS Z h131 b131 b115 [(bm113, (own_t0_27 p0 p1 p2 q3 q4)), (bm114, (own_t0_42 p0 p1 p2 q3 q4)), (bm113, (own_t0_27 p0 p1 p2 q3 q4))] := ⟨lt_b115_b131, A131_b115, F131_b115_size, (Or.inr ⟨bg118, lt_bg118_b131, F131_b115_elementData, B131_bg118⟩), (own_qS ⟨lt_bm113_b131, A131_bm113, F131_bm113_cents, own_am27 p0 p1 p2 q3 q4⟩ (own_qS ⟨lt_bm114_b131, A131_bm114, F131_bm114_cents, own_am42 p0 p1 p2 q3 q4⟩ (own_qS ⟨lt_bm113_b131, A131_bm113, F131_bm113_cents, own_am27 p0 p1 p2 q3 q4⟩ own_q0)))⟩
              have LS132_3 : own_LS Z h131 b131 b123 [(bm114, (own_t0_42 p0 p1 p2 q3 q4)), (bm113, (own_t0_27 p0 p1 p2 q3 q4)), (bm114, (own_t0_42 p0 p1 p2 q3 q4))] := ⟨lt_b123_b131, A131_b123, F131_b123_size, (Or.inr ⟨bg126, lt_bg126_b131, F131_b123_elementData, B131_bg126⟩), (own_qS ⟨lt_bm114_b131, A131_bm114, F131_bm114_cents, own_am42 p0 p1 p2 q3 q4⟩ (own_qS ⟨lt_bm113_b131, A131_bm113, F131_bm113_cents, own_am27 p0 p1 p2 q3 q4⟩ (own_qS ⟨lt_bm114_b131, A131_bm114, F131_bm114_cents, own_am42 p0 p1 p2 q3 q4⟩ own_q0)))⟩
              refine own_callC (y := (⟨"com/example/bidwright/bidwright/allocation/Supply", "<init>", "(ILjava/util/List;Ljava/util/List;)V"⟩ : MethodName)) (W := 1) [(.int p0), (.ref b115), (.ref b123)] X131 hx hZ hown rfl (own_w78 hw) (own_w79 hw) (own_w77 hw) (own_w80 hw) (by decide) (own_c13 l Z a0 hw h131 n0 Zn131 b131 p0 b115 b123 b131 _ _ A131 F131_held F131_costs F131_revenues ga_b131 (Nat.le_refl _) LS132_2 LS132_3 (by show 3 ≤ 3; decide) (by show 3 ≤ 3; decide)) (allS (Or.inr q131) all0) (by decide) (by decide) (by decide) (by decide) (by rw [hml]; rfl) own_pd14 rfl rfl (Nat.le_of_eq rfl) (hb hby at_156) ?_
              rintro v132 T132 h132 X132 K132 ⟨rfl, Ax132, Fh132, bt132, La132, Fc132, Bt132, hl132⟩
              have B132_vd := B131_vd.keep K132 (ninS ne_vd_b131 nin0)
              have B132_bg118 := B131_bg118.keep K132 (ninS ne_bg118_b131 nin0)
              have B132_bg126 := B131_bg126.keep K132 (ninS ne_bg126_b131 nin0)
              have F132_bm113_cents := F131_bm113_cents.keep K132 (ninS ne_bm113_b131 nin0)
              have F132_bm114_cents := F131_bm114_cents.keep K132 (ninS ne_bm114_b131 nin0)
              have F132_b115_modCount := F131_b115_modCount.keep K132 (ninS ne_b115_b131 nin0)
              have F132_b115_elementData := F131_b115_elementData.keep K132 (ninS ne_b115_b131 nin0)
              have F132_b115_size := F131_b115_size.keep K132 (ninS ne_b115_b131 nin0)
              have F132_b123_modCount := F131_b123_modCount.keep K132 (ninS ne_b123_b131 nin0)
              have F132_b123_elementData := F131_b123_elementData.keep K132 (ninS ne_b123_b131 nin0)
              have F132_b123_size := F131_b123_size.keep K132 (ninS ne_b123_b131 nin0)
              have A132_bm113 := A131_bm113.keep K132
              have A132_bm114 := A131_bm114.keep K132
              have A132_b115 := A131_b115.keep K132
              have A132_b123 := A131_b123.keep K132
              have A132_b131 := A131.keep K132
              have Zn132 : n0 ≤ h132.size := Nat.le_trans Zn131 K132.1
              show own_G p e below _ T132 (mkF m 159 #[.val (.int p0), .val (.int p1), .val (.int p2), .val (.long q3), .second, .val (.long q4), .second, .val (.int (own_t0_3 p0 p1 p2 q3 q4)), .val (.int (own_t0_16 p0 p1 p2 q3 q4)), .val (.ref bm113), .val (.ref bm114), .val (.ref b115), .val (.ref b123), .unset, .unset, .unset] [(.ref b131)])
              refine own_st (f' := (mkF m 161 #[.val (.int p0), .val (.int p1), .val (.int p2), .val (.long q3), .second, .val (.long q4), .second, .val (.int (own_t0_3 p0 p1 p2 q3 q4)), .val (.int (own_t0_16 p0 p1 p2 q3 q4)), .val (.ref bm113), .val (.ref bm114), .val (.ref b115), .val (.ref b123), .val (.ref b131), .unset, .unset] [])) (fun t k => XS.astore X132.her hx rfl (hb hby at_159) rfl rfl (l' := #[.val (.int p0), .val (.int p1), .val (.int p2), .val (.long q3), .second, .val (.long q4), .second, .val (.int (own_t0_3 p0 p1 p2 q3 q4)), .val (.int (own_t0_16 p0 p1 p2 q3 q4)), .val (.ref bm113), .val (.ref bm114), .val (.ref b115), .val (.ref b123), .val (.ref b131), .unset, .unset]) rfl k) ?_
              refine own_st (f' := (mkF m 162 #[.val (.int p0), .val (.int p1), .val (.int p2), .val (.long q3), .second, .val (.long q4), .second, .val (.int (own_t0_3 p0 p1 p2 q3 q4)), .val (.int (own_t0_16 p0 p1 p2 q3 q4)), .val (.ref bm113), .val (.ref bm114), .val (.ref b115), .val (.ref b123), .val (.ref b131), .unset, .unset] [(.int p0)])) (fun t k => XS.iloadN X132.her hx rfl (hb hby at_161) rfl k) ?_
              refine own_st (f' := (mkF m 163 #[.val (.int p0), .val (.int p1), .val (.int p2), .val (.long q3), .second, .val (.long q4), .second, .val (.int (own_t0_3 p0 p1 p2 q3 q4)), .val (.int (own_t0_16 p0 p1 p2 q3 q4)), .val (.ref bm113), .val (.ref bm114), .val (.ref b115), .val (.ref b123), .val (.ref b131), .unset, .unset] [(.long (p0.toInt64))])) (fun t k => XS.i2l X132.her hx rfl (hb hby at_162) rfl k) ?_
              refine own_st (f' := (mkF m 165 #[.val (.int p0), .val (.int p1), .val (.int p2), .val (.long q3), .second, .val (.long q4), .second, .val (.int (own_t0_3 p0 p1 p2 q3 q4)), .val (.int (own_t0_16 p0 p1 p2 q3 q4)), .val (.ref bm113), .val (.ref bm114), .val (.ref b115), .val (.ref b123), .val (.ref b131), .unset, .unset] [(.int (own_t0_3 p0 p1 p2 q3 q4)), (.long (p0.toInt64))])) (fun t k => XS.iload X132.her hx rfl (hb hby at_163) rfl k) ?_
              refine own_st (f' := (mkF m 166 #[.val (.int p0), .val (.int p1), .val (.int p2), .val (.long q3), .second, .val (.long q4), .second, .val (.int (own_t0_3 p0 p1 p2 q3 q4)), .val (.int (own_t0_16 p0 p1 p2 q3 q4)), .val (.ref bm113), .val (.ref bm114), .val (.ref b115), .val (.ref b123), .val (.ref b131), .unset, .unset] [(.long ((own_t0_3 p0 p1 p2 q3 q4).toInt64)), (.long (p0.toInt64))])) (fun t k => XS.i2l X132.her hx rfl (hb hby at_165) rfl k) ?_
              refine own_st (f' := (mkF m 167 #[.val (.int p0), .val (.int p1), .val (.int p2), .val (.long q3), .second, .val (.long q4), .second, .val (.int (own_t0_3 p0 p1 p2 q3 q4)), .val (.int (own_t0_16 p0 p1 p2 q3 q4)), .val (.ref bm113), .val (.ref bm114), .val (.ref b115), .val (.ref b123), .val (.ref b131), .unset, .unset] [(.long ((p0.toInt64) + ((own_t0_3 p0 p1 p2 q3 q4).toInt64)))])) (fun t k => XS.ladd X132.her hx rfl (hb hby at_166) rfl k) ?_
              refine own_st (f' := (mkF m 169 #[.val (.int p0), .val (.int p1), .val (.int p2), .val (.long q3), .second, .val (.long q4), .second, .val (.int (own_t0_3 p0 p1 p2 q3 q4)), .val (.int (own_t0_16 p0 p1 p2 q3 q4)), .val (.ref bm113), .val (.ref bm114), .val (.ref b115), .val (.ref b123), .val (.ref b131), .val (.long (own_t0_167 p0 p1 p2 q3 q4)), .second] [])) (fun t k => XS.lstore X132.her hx rfl (hb hby at_167) rfl (l' := #[.val (.int p0), .val (.int p1), .val (.int p2), .val (.long q3), .second, .val (.long q4), .second, .val (.int (own_t0_3 p0 p1 p2 q3 q4)), .val (.int (own_t0_16 p0 p1 p2 q3 q4)), .val (.ref bm113), .val (.ref bm114), .val (.ref b115), .val (.ref b123), .val (.ref b131), .val (.long (own_t0_167 p0 p1 p2 q3 q4)), .second]) rfl k) ?_
              refine own_st (f' := (mkF m 171 #[.val (.int p0), .val (.int p1), .val (.int p2), .val (.long q3), .second, .val (.long q4), .second, .val (.int (own_t0_3 p0 p1 p2 q3 q4)), .val (.int (own_t0_16 p0 p1 p2 q3 q4)), .val (.ref bm113), .val (.ref bm114), .val (.ref b115), .val (.ref b123), .val (.ref b131), .val (.long (own_t0_167 p0 p1 p2 q3 q4)), .second] [(.ref b131)])) (fun t k => XS.aload X132.her hx rfl (hb hby at_169) rfl rfl k) ?_
              refine own_callVP (y := (⟨"com/example/bidwright/bidwright/allocation/Supply", "most", "()J"⟩ : MethodName)) (W := 0) [] X132 hx hZ hown (own_w132 hw) (own_w133 hw) (own_w135 hw) (own_w134 hw) (own_w77 hw) (own_w136 hw) (by decide) Ax132 (own_c22 l Z a0 hw h132 n0 Zn132 b131 p0 (4 : Int32) bt132 _ Fh132 Fc132 Bt132 (by rw [hl132]; rfl)) (by decide) (by decide) (by decide) (by decide) (by rw [hml]; rfl) own_pd11 rfl rfl (Nat.le_of_eq rfl) (hb hby at_171) ?_
              intro T133 X133
              show own_G p e below _ T133 (mkF m 174 #[.val (.int p0), .val (.int p1), .val (.int p2), .val (.long q3), .second, .val (.long q4), .second, .val (.int (own_t0_3 p0 p1 p2 q3 q4)), .val (.int (own_t0_16 p0 p1 p2 q3 q4)), .val (.ref bm113), .val (.ref bm114), .val (.ref b115), .val (.ref b123), .val (.ref b131), .val (.long (own_t0_167 p0 p1 p2 q3 q4)), .second] [(.long ((p0.toInt64 + (4 : Int32).toInt64) - 1))])
              refine own_st (f' := (mkF m 176 #[.val (.int p0), .val (.int p1), .val (.int p2), .val (.long q3), .second, .val (.long q4), .second, .val (.int (own_t0_3 p0 p1 p2 q3 q4)), .val (.int (own_t0_16 p0 p1 p2 q3 q4)), .val (.ref bm113), .val (.ref bm114), .val (.ref b115), .val (.ref b123), .val (.ref b131), .val (.long (own_t0_167 p0 p1 p2 q3 q4)), .second] [(.long (own_t0_167 p0 p1 p2 q3 q4)), (.long ((p0.toInt64 + (4 : Int32).toInt64) - 1))])) (fun t k => XS.lload X133.her hx rfl (hb hby at_174) rfl k) ?_
              refine own_st (f' := (mkF m 177 #[.val (.int p0), .val (.int p1), .val (.int p2), .val (.long q3), .second, .val (.long q4), .second, .val (.int (own_t0_3 p0 p1 p2 q3 q4)), .val (.int (own_t0_16 p0 p1 p2 q3 q4)), .val (.ref bm113), .val (.ref bm114), .val (.ref b115), .val (.ref b123), .val (.ref b131), .val (.long (own_t0_167 p0 p1 p2 q3 q4)), .second] [(.int (lcmpW ((p0.toInt64 + (4 : Int32).toInt64) - 1) (own_t0_167 p0 p1 p2 q3 q4)))])) (fun t k => XS.lcmp X133.her hx rfl (hb hby at_176) rfl k) ?_
              refine own_st (f' := (mkF m 180 #[.val (.int p0), .val (.int p1), .val (.int p2), .val (.long q3), .second, .val (.long q4), .second, .val (.int (own_t0_3 p0 p1 p2 q3 q4)), .val (.int (own_t0_16 p0 p1 p2 q3 q4)), .val (.ref bm113), .val (.ref bm114), .val (.ref b115), .val (.ref b123), .val (.ref b131), .val (.long (own_t0_167 p0 p1 p2 q3 q4)), .second] [])) (fun t k => XS.ifNo X133.her hx rfl (hb hby at_177) rfl ((if0 _ _).trans (teq ((lw_eq _ _).mpr (own_fin _ _ _ (by rw [own_nb3 p0 p1 p2 q3 q4 hc121]; decide)) : (lcmpW ((p0.toInt64 + (4 : Int32).toInt64) - 1) (own_t0_167 p0 p1 p2 q3 q4)) = (0 : Int32))).2) k) ?_
              refine own_st (f' := (mkF m 181 #[.val (.int p0), .val (.int p1), .val (.int p2), .val (.long q3), .second, .val (.long q4), .second, .val (.int (own_t0_3 p0 p1 p2 q3 q4)), .val (.int (own_t0_16 p0 p1 p2 q3 q4)), .val (.ref bm113), .val (.ref bm114), .val (.ref b115), .val (.ref b123), .val (.ref b131), .val (.long (own_t0_167 p0 p1 p2 q3 q4)), .second] [(.int (1 : Int32))])) (fun t k => XS.iconst X133.her hx rfl (hb hby at_180) k) ?_
              refine own_st (f' := (mkF m 185 #[.val (.int p0), .val (.int p1), .val (.int p2), .val (.long q3), .second, .val (.long q4), .second, .val (.int (own_t0_3 p0 p1 p2 q3 q4)), .val (.int (own_t0_16 p0 p1 p2 q3 q4)), .val (.ref bm113), .val (.ref bm114), .val (.ref b115), .val (.ref b123), .val (.ref b131), .val (.long (own_t0_167 p0 p1 p2 q3 q4)), .second] [(.int (1 : Int32))])) (fun t k => XS.goto X133.her hx rfl (pc0 := 181) (pc' := 185) rfl (hb hby at_181) (by decide) (by decide) k) ?_
              refine own_retN (t := .boolean) X133 hx hret hlk (by simp) (hb hby at_185) (by first | decide | omega) (by first | decide | omega) ?_
              exact congrArg (fun q => some (Value.int q)) (by decide)
            · refine own_st (f' := (mkF m 147 #[.val (.int p0), .val (.int p1), .val (.int p2), .val (.long q3), .second, .val (.long q4), .second, .val (.int (own_t0_3 p0 p1 p2 q3 q4)), .val (.int (own_t0_16 p0 p1 p2 q3 q4)), .val (.ref bm113), .val (.ref bm114), .val (.ref b115), .val (.ref b123), .unset, .unset, .unset] [])) (fun t k => XS.icmpYes X128.her hx rfl (pc0 := 136) (pc' := 147) rfl (hb hby at_136) rfl (flt hc129).2.2.2 (by decide) (by decide) k) ?_
              refine own_newO X128 hx hZ hown (own_w75 hw) (own_w76 hw) (own_w77 hw) (hb hby at_147) (by decide) (by decide) ?_
              intro T134 h134 b134 g134 q134 X134 E134 A134 D134
              have lt_vd_b134 : vd < b134 := Nat.lt_of_lt_of_le B128_vd.lt (Nat.le_of_eq g134.symm)
              have ne_vd_b134 : vd ≠ b134 := Nat.ne_of_lt (Nat.lt_of_lt_of_le B128_vd.lt (Nat.le_of_eq g134.symm))
              have B134_vd := B128_vd.ext E134
              have lt_bg118_b134 : bg118 < b134 := Nat.lt_of_lt_of_le B128_bg118.lt (Nat.le_of_eq g134.symm)
              have ne_bg118_b134 : bg118 ≠ b134 := Nat.ne_of_lt (Nat.lt_of_lt_of_le B128_bg118.lt (Nat.le_of_eq g134.symm))
              have B134_bg118 := B128_bg118.ext E134
              have lt_bg126_b134 : bg126 < b134 := Nat.lt_of_lt_of_le Bg128.lt (Nat.le_of_eq g134.symm)
              have ne_bg126_b134 : bg126 ≠ b134 := Nat.ne_of_lt (Nat.lt_of_lt_of_le Bg128.lt (Nat.le_of_eq g134.symm))
              have B134_bg126 := Bg128.ext E134
              have lt_bm113_b134 : bm113 < b134 := Nat.lt_of_lt_of_le A128_bm113.lt (Nat.le_of_eq g134.symm)
              have ne_bm113_b134 : bm113 ≠ b134 := Nat.ne_of_lt (Nat.lt_of_lt_of_le A128_bm113.lt (Nat.le_of_eq g134.symm))
              have A134_bm113 := A128_bm113.ext E134
              have lt_bm114_b134 : bm114 < b134 := Nat.lt_of_lt_of_le A128_bm114.lt (Nat.le_of_eq g134.symm)
              have ne_bm114_b134 : bm114 ≠ b134 := Nat.ne_of_lt (Nat.lt_of_lt_of_le A128_bm114.lt (Nat.le_of_eq g134.symm))
              have A134_bm114 := A128_bm114.ext E134
              have lt_b115_b134 : b115 < b134 := Nat.lt_of_lt_of_le A128_b115.lt (Nat.le_of_eq g134.symm)
              have ne_b115_b134 : b115 ≠ b134 := Nat.ne_of_lt (Nat.lt_of_lt_of_le A128_b115.lt (Nat.le_of_eq g134.symm))
              have A134_b115 := A128_b115.ext E134
              have lt_b123_b134 : b123 < b134 := Nat.lt_of_lt_of_le Ea128.lt (Nat.le_of_eq g134.symm)
              have ne_b123_b134 : b123 ≠ b134 := Nat.ne_of_lt (Nat.lt_of_lt_of_le Ea128.lt (Nat.le_of_eq g134.symm))
              have A134_b123 := Ea128.ext E134
              have F134_bm113_cents := F128_bm113_cents.ext E134
              have F134_bm114_cents := F128_bm114_cents.ext E134
              have F134_b115_modCount := F128_b115_modCount.ext E134
              have F134_b115_elementData := F128_b115_elementData.ext E134
              have F134_b115_size := F128_b115_size.ext E134
              have F134_b123_modCount := Fm128.ext E134
              have F134_b123_elementData := Fe128.ext E134
              have F134_b123_size := Fs128.ext E134
              have S134_DEFAULTCAPACITY_EMPTY_ELEMENTDATA := Sk128.ext E134
              have ga_b134 : n0 ≤ b134 := Nat.le_trans Z0 q134
              have Zn134 : n0 ≤ h134.size := Nat.le_trans Zn128 E134.1
              have F134_held : Fld Z h134 b134 "com/example/bidwright/bidwright/allocation/Supply" "held" "I" (.int (0 : Int32)) := D134 (Or.inr (own_w83 hw)) (ty := .int) (by decide)
              have F134_costs : Fld Z h134 b134 "com/example/bidwright/bidwright/allocation/Supply" "costs" "[J" .null := D134 (Or.inr (own_w129 hw)) (ty := (.array .long)) (by decide)
              have F134_revenues : Fld Z h134 b134 "com/example/bidwright/bidwright/allocation/Supply" "revenues" "[J" .null := D134 (Or.inr (own_w131 hw)) (ty := (.array .long)) (by decide)
              refine own_st (f' := (mkF m 151 #[.val (.int p0), .val (.int p1), .val (.int p2), .val (.long q3), .second, .val (.long q4), .second, .val (.int (own_t0_3 p0 p1 p2 q3 q4)), .val (.int (own_t0_16 p0 p1 p2 q3 q4)), .val (.ref bm113), .val (.ref bm114), .val (.ref b115), .val (.ref b123), .unset, .unset, .unset] [(.ref b134), (.ref b134)])) (fun t k => XS.dup X134.her hx rfl (hb hby at_150) rfl rfl k) ?_
              refine own_st (f' := (mkF m 152 #[.val (.int p0), .val (.int p1), .val (.int p2), .val (.long q3), .second, .val (.long q4), .second, .val (.int (own_t0_3 p0 p1 p2 q3 q4)), .val (.int (own_t0_16 p0 p1 p2 q3 q4)), .val (.ref bm113), .val (.ref bm114), .val (.ref b115), .val (.ref b123), .unset, .unset, .unset] [(.int p0), (.ref b134), (.ref b134)])) (fun t k => XS.iloadN X134.her hx rfl (hb hby at_151) rfl k) ?_
              refine own_st (f' := (mkF m 154 #[.val (.int p0), .val (.int p1), .val (.int p2), .val (.long q3), .second, .val (.long q4), .second, .val (.int (own_t0_3 p0 p1 p2 q3 q4)), .val (.int (own_t0_16 p0 p1 p2 q3 q4)), .val (.ref bm113), .val (.ref bm114), .val (.ref b115), .val (.ref b123), .unset, .unset, .unset] [(.ref b115), (.int p0), (.ref b134), (.ref b134)])) (fun t k => XS.aload X134.her hx rfl (hb hby at_152) rfl rfl k) ?_
              refine own_st (f' := (mkF m 156 #[.val (.int p0), .val (.int p1), .val (.int p2), .val (.long q3), .second, .val (.long q4), .second, .val (.int (own_t0_3 p0 p1 p2 q3 q4)), .val (.int (own_t0_16 p0 p1 p2 q3 q4)), .val (.ref bm113), .val (.ref bm114), .val (.ref b115), .val (.ref b123), .unset, .unset, .unset] [(.ref b123), (.ref b115), (.int p0), (.ref b134), (.ref b134)])) (fun t k => XS.aload X134.her hx rfl (hb hby at_154) rfl rfl k) ?_
              have LS135_2 : own_LS Z h134 b134 b115 [(bm113, (own_t0_27 p0 p1 p2 q3 q4)), (bm114, (own_t0_42 p0 p1 p2 q3 q4)), (bm113, (own_t0_27 p0 p1 p2 q3 q4))] := ⟨lt_b115_b134, A134_b115, F134_b115_size, (Or.inr ⟨bg118, lt_bg118_b134, F134_b115_elementData, B134_bg118⟩), (own_qS ⟨lt_bm113_b134, A134_bm113, F134_bm113_cents, own_am27 p0 p1 p2 q3 q4⟩ (own_qS ⟨lt_bm114_b134, A134_bm114, F134_bm114_cents, own_am42 p0 p1 p2 q3 q4⟩ (own_qS ⟨lt_bm113_b134, A134_bm113, F134_bm113_cents, own_am27 p0 p1 p2 q3 q4⟩ own_q0)))⟩
              have LS135_3 : own_LS Z h134 b134 b123 [(bm114, (own_t0_42 p0 p1 p2 q3 q4)), (bm113, (own_t0_27 p0 p1 p2 q3 q4))] := ⟨lt_b123_b134, A134_b123, F134_b123_size, (Or.inr ⟨bg126, lt_bg126_b134, F134_b123_elementData, B134_bg126⟩), (own_qS ⟨lt_bm114_b134, A134_bm114, F134_bm114_cents, own_am42 p0 p1 p2 q3 q4⟩ (own_qS ⟨lt_bm113_b134, A134_bm113, F134_bm113_cents, own_am27 p0 p1 p2 q3 q4⟩ own_q0))⟩
              refine own_callC (y := (⟨"com/example/bidwright/bidwright/allocation/Supply", "<init>", "(ILjava/util/List;Ljava/util/List;)V"⟩ : MethodName)) (W := 1) [(.int p0), (.ref b115), (.ref b123)] X134 hx hZ hown rfl (own_w78 hw) (own_w79 hw) (own_w77 hw) (own_w80 hw) (by decide) (own_c13 l Z a0 hw h134 n0 Zn134 b134 p0 b115 b123 b134 _ _ A134 F134_held F134_costs F134_revenues ga_b134 (Nat.le_refl _) LS135_2 LS135_3 (by show 3 ≤ 3; decide) (by show 2 ≤ 3; decide)) (allS (Or.inr q134) all0) (by decide) (by decide) (by decide) (by decide) (by rw [hml]; rfl) own_pd14 rfl rfl (Nat.le_of_eq rfl) (hb hby at_156) ?_
              rintro v135 T135 h135 X135 K135 ⟨rfl, Ax135, Fh135, bt135, La135, Fc135, Bt135, hl135⟩
              have B135_vd := B134_vd.keep K135 (ninS ne_vd_b134 nin0)
              have B135_bg118 := B134_bg118.keep K135 (ninS ne_bg118_b134 nin0)
              have B135_bg126 := B134_bg126.keep K135 (ninS ne_bg126_b134 nin0)
              have F135_bm113_cents := F134_bm113_cents.keep K135 (ninS ne_bm113_b134 nin0)
              have F135_bm114_cents := F134_bm114_cents.keep K135 (ninS ne_bm114_b134 nin0)
              have F135_b115_modCount := F134_b115_modCount.keep K135 (ninS ne_b115_b134 nin0)
              have F135_b115_elementData := F134_b115_elementData.keep K135 (ninS ne_b115_b134 nin0)
              have F135_b115_size := F134_b115_size.keep K135 (ninS ne_b115_b134 nin0)
              have F135_b123_modCount := F134_b123_modCount.keep K135 (ninS ne_b123_b134 nin0)
              have F135_b123_elementData := F134_b123_elementData.keep K135 (ninS ne_b123_b134 nin0)
              have F135_b123_size := F134_b123_size.keep K135 (ninS ne_b123_b134 nin0)
              have A135_bm113 := A134_bm113.keep K135
              have A135_bm114 := A134_bm114.keep K135
              have A135_b115 := A134_b115.keep K135
              have A135_b123 := A134_b123.keep K135
              have A135_b134 := A134.keep K135
              have Zn135 : n0 ≤ h135.size := Nat.le_trans Zn134 K135.1
              show own_G p e below _ T135 (mkF m 159 #[.val (.int p0), .val (.int p1), .val (.int p2), .val (.long q3), .second, .val (.long q4), .second, .val (.int (own_t0_3 p0 p1 p2 q3 q4)), .val (.int (own_t0_16 p0 p1 p2 q3 q4)), .val (.ref bm113), .val (.ref bm114), .val (.ref b115), .val (.ref b123), .unset, .unset, .unset] [(.ref b134)])
              refine own_st (f' := (mkF m 161 #[.val (.int p0), .val (.int p1), .val (.int p2), .val (.long q3), .second, .val (.long q4), .second, .val (.int (own_t0_3 p0 p1 p2 q3 q4)), .val (.int (own_t0_16 p0 p1 p2 q3 q4)), .val (.ref bm113), .val (.ref bm114), .val (.ref b115), .val (.ref b123), .val (.ref b134), .unset, .unset] [])) (fun t k => XS.astore X135.her hx rfl (hb hby at_159) rfl rfl (l' := #[.val (.int p0), .val (.int p1), .val (.int p2), .val (.long q3), .second, .val (.long q4), .second, .val (.int (own_t0_3 p0 p1 p2 q3 q4)), .val (.int (own_t0_16 p0 p1 p2 q3 q4)), .val (.ref bm113), .val (.ref bm114), .val (.ref b115), .val (.ref b123), .val (.ref b134), .unset, .unset]) rfl k) ?_
              refine own_st (f' := (mkF m 162 #[.val (.int p0), .val (.int p1), .val (.int p2), .val (.long q3), .second, .val (.long q4), .second, .val (.int (own_t0_3 p0 p1 p2 q3 q4)), .val (.int (own_t0_16 p0 p1 p2 q3 q4)), .val (.ref bm113), .val (.ref bm114), .val (.ref b115), .val (.ref b123), .val (.ref b134), .unset, .unset] [(.int p0)])) (fun t k => XS.iloadN X135.her hx rfl (hb hby at_161) rfl k) ?_
              refine own_st (f' := (mkF m 163 #[.val (.int p0), .val (.int p1), .val (.int p2), .val (.long q3), .second, .val (.long q4), .second, .val (.int (own_t0_3 p0 p1 p2 q3 q4)), .val (.int (own_t0_16 p0 p1 p2 q3 q4)), .val (.ref bm113), .val (.ref bm114), .val (.ref b115), .val (.ref b123), .val (.ref b134), .unset, .unset] [(.long (p0.toInt64))])) (fun t k => XS.i2l X135.her hx rfl (hb hby at_162) rfl k) ?_
              refine own_st (f' := (mkF m 165 #[.val (.int p0), .val (.int p1), .val (.int p2), .val (.long q3), .second, .val (.long q4), .second, .val (.int (own_t0_3 p0 p1 p2 q3 q4)), .val (.int (own_t0_16 p0 p1 p2 q3 q4)), .val (.ref bm113), .val (.ref bm114), .val (.ref b115), .val (.ref b123), .val (.ref b134), .unset, .unset] [(.int (own_t0_3 p0 p1 p2 q3 q4)), (.long (p0.toInt64))])) (fun t k => XS.iload X135.her hx rfl (hb hby at_163) rfl k) ?_
              refine own_st (f' := (mkF m 166 #[.val (.int p0), .val (.int p1), .val (.int p2), .val (.long q3), .second, .val (.long q4), .second, .val (.int (own_t0_3 p0 p1 p2 q3 q4)), .val (.int (own_t0_16 p0 p1 p2 q3 q4)), .val (.ref bm113), .val (.ref bm114), .val (.ref b115), .val (.ref b123), .val (.ref b134), .unset, .unset] [(.long ((own_t0_3 p0 p1 p2 q3 q4).toInt64)), (.long (p0.toInt64))])) (fun t k => XS.i2l X135.her hx rfl (hb hby at_165) rfl k) ?_
              refine own_st (f' := (mkF m 167 #[.val (.int p0), .val (.int p1), .val (.int p2), .val (.long q3), .second, .val (.long q4), .second, .val (.int (own_t0_3 p0 p1 p2 q3 q4)), .val (.int (own_t0_16 p0 p1 p2 q3 q4)), .val (.ref bm113), .val (.ref bm114), .val (.ref b115), .val (.ref b123), .val (.ref b134), .unset, .unset] [(.long ((p0.toInt64) + ((own_t0_3 p0 p1 p2 q3 q4).toInt64)))])) (fun t k => XS.ladd X135.her hx rfl (hb hby at_166) rfl k) ?_
              refine own_st (f' := (mkF m 169 #[.val (.int p0), .val (.int p1), .val (.int p2), .val (.long q3), .second, .val (.long q4), .second, .val (.int (own_t0_3 p0 p1 p2 q3 q4)), .val (.int (own_t0_16 p0 p1 p2 q3 q4)), .val (.ref bm113), .val (.ref bm114), .val (.ref b115), .val (.ref b123), .val (.ref b134), .val (.long (own_t0_167 p0 p1 p2 q3 q4)), .second] [])) (fun t k => XS.lstore X135.her hx rfl (hb hby at_167) rfl (l' := #[.val (.int p0), .val (.int p1), .val (.int p2), .val (.long q3), .second, .val (.long q4), .second, .val (.int (own_t0_3 p0 p1 p2 q3 q4)), .val (.int (own_t0_16 p0 p1 p2 q3 q4)), .val (.ref bm113), .val (.ref bm114), .val (.ref b115), .val (.ref b123), .val (.ref b134), .val (.long (own_t0_167 p0 p1 p2 q3 q4)), .second]) rfl k) ?_
              refine own_st (f' := (mkF m 171 #[.val (.int p0), .val (.int p1), .val (.int p2), .val (.long q3), .second, .val (.long q4), .second, .val (.int (own_t0_3 p0 p1 p2 q3 q4)), .val (.int (own_t0_16 p0 p1 p2 q3 q4)), .val (.ref bm113), .val (.ref bm114), .val (.ref b115), .val (.ref b123), .val (.ref b134), .val (.long (own_t0_167 p0 p1 p2 q3 q4)), .second] [(.ref b134)])) (fun t k => XS.aload X135.her hx rfl (hb hby at_169) rfl rfl k) ?_
              refine own_callVP (y := (⟨"com/example/bidwright/bidwright/allocation/Supply", "most", "()J"⟩ : MethodName)) (W := 0) [] X135 hx hZ hown (own_w132 hw) (own_w133 hw) (own_w135 hw) (own_w134 hw) (own_w77 hw) (own_w136 hw) (by decide) Ax135 (own_c22 l Z a0 hw h135 n0 Zn135 b134 p0 (4 : Int32) bt135 _ Fh135 Fc135 Bt135 (by rw [hl135]; rfl)) (by decide) (by decide) (by decide) (by decide) (by rw [hml]; rfl) own_pd11 rfl rfl (Nat.le_of_eq rfl) (hb hby at_171) ?_
              intro T136 X136
              show own_G p e below _ T136 (mkF m 174 #[.val (.int p0), .val (.int p1), .val (.int p2), .val (.long q3), .second, .val (.long q4), .second, .val (.int (own_t0_3 p0 p1 p2 q3 q4)), .val (.int (own_t0_16 p0 p1 p2 q3 q4)), .val (.ref bm113), .val (.ref bm114), .val (.ref b115), .val (.ref b123), .val (.ref b134), .val (.long (own_t0_167 p0 p1 p2 q3 q4)), .second] [(.long ((p0.toInt64 + (4 : Int32).toInt64) - 1))])
              refine own_st (f' := (mkF m 176 #[.val (.int p0), .val (.int p1), .val (.int p2), .val (.long q3), .second, .val (.long q4), .second, .val (.int (own_t0_3 p0 p1 p2 q3 q4)), .val (.int (own_t0_16 p0 p1 p2 q3 q4)), .val (.ref bm113), .val (.ref bm114), .val (.ref b115), .val (.ref b123), .val (.ref b134), .val (.long (own_t0_167 p0 p1 p2 q3 q4)), .second] [(.long (own_t0_167 p0 p1 p2 q3 q4)), (.long ((p0.toInt64 + (4 : Int32).toInt64) - 1))])) (fun t k => XS.lload X136.her hx rfl (hb hby at_174) rfl k) ?_
              refine own_st (f' := (mkF m 177 #[.val (.int p0), .val (.int p1), .val (.int p2), .val (.long q3), .second, .val (.long q4), .second, .val (.int (own_t0_3 p0 p1 p2 q3 q4)), .val (.int (own_t0_16 p0 p1 p2 q3 q4)), .val (.ref bm113), .val (.ref bm114), .val (.ref b115), .val (.ref b123), .val (.ref b134), .val (.long (own_t0_167 p0 p1 p2 q3 q4)), .second] [(.int (lcmpW ((p0.toInt64 + (4 : Int32).toInt64) - 1) (own_t0_167 p0 p1 p2 q3 q4)))])) (fun t k => XS.lcmp X136.her hx rfl (hb hby at_176) rfl k) ?_
              refine own_st (f' := (mkF m 180 #[.val (.int p0), .val (.int p1), .val (.int p2), .val (.long q3), .second, .val (.long q4), .second, .val (.int (own_t0_3 p0 p1 p2 q3 q4)), .val (.int (own_t0_16 p0 p1 p2 q3 q4)), .val (.ref bm113), .val (.ref bm114), .val (.ref b115), .val (.ref b123), .val (.ref b134), .val (.long (own_t0_167 p0 p1 p2 q3 q4)), .second] [])) (fun t k => XS.ifNo X136.her hx rfl (hb hby at_177) rfl ((if0 _ _).trans (teq ((lw_eq _ _).mpr (own_fin _ _ _ (by rw [own_nb3 p0 p1 p2 q3 q4 hc121]; decide)) : (lcmpW ((p0.toInt64 + (4 : Int32).toInt64) - 1) (own_t0_167 p0 p1 p2 q3 q4)) = (0 : Int32))).2) k) ?_
              refine own_st (f' := (mkF m 181 #[.val (.int p0), .val (.int p1), .val (.int p2), .val (.long q3), .second, .val (.long q4), .second, .val (.int (own_t0_3 p0 p1 p2 q3 q4)), .val (.int (own_t0_16 p0 p1 p2 q3 q4)), .val (.ref bm113), .val (.ref bm114), .val (.ref b115), .val (.ref b123), .val (.ref b134), .val (.long (own_t0_167 p0 p1 p2 q3 q4)), .second] [(.int (1 : Int32))])) (fun t k => XS.iconst X136.her hx rfl (hb hby at_180) k) ?_
              refine own_st (f' := (mkF m 185 #[.val (.int p0), .val (.int p1), .val (.int p2), .val (.long q3), .second, .val (.long q4), .second, .val (.int (own_t0_3 p0 p1 p2 q3 q4)), .val (.int (own_t0_16 p0 p1 p2 q3 q4)), .val (.ref bm113), .val (.ref bm114), .val (.ref b115), .val (.ref b123), .val (.ref b134), .val (.long (own_t0_167 p0 p1 p2 q3 q4)), .second] [(.int (1 : Int32))])) (fun t k => XS.goto X136.her hx rfl (pc0 := 181) (pc' := 185) rfl (hb hby at_181) (by decide) (by decide) k) ?_
              refine own_retN (t := .boolean) X136 hx hret hlk (by simp) (hb hby at_185) (by first | decide | omega) (by first | decide | omega) ?_
              exact congrArg (fun q => some (Value.int q)) (by decide)
          · refine own_st (f' := (mkF m 133 #[.val (.int p0), .val (.int p1), .val (.int p2), .val (.long q3), .second, .val (.long q4), .second, .val (.int (own_t0_3 p0 p1 p2 q3 q4)), .val (.int (own_t0_16 p0 p1 p2 q3 q4)), .val (.ref bm113), .val (.ref bm114), .val (.ref b115), .val (.ref b123), .unset, .unset, .unset] [])) (fun t k => XS.icmpYes X126.her hx rfl (pc0 := 122) (pc' := 133) rfl (hb hby at_122) rfl (flt hc127).2.2.2 (by decide) (by decide) k) ?_
            refine own_st (f' := (mkF m 135 #[.val (.int p0), .val (.int p1), .val (.int p2), .val (.long q3), .second, .val (.long q4), .second, .val (.int (own_t0_3 p0 p1 p2 q3 q4)), .val (.int (own_t0_16 p0 p1 p2 q3 q4)), .val (.ref bm113), .val (.ref bm114), .val (.ref b115), .val (.ref b123), .unset, .unset, .unset] [(.int (own_t0_16 p0 p1 p2 q3 q4))])) (fun t k => XS.iload X126.her hx rfl (hb hby at_133) rfl k) ?_
            refine own_st (f' := (mkF m 136 #[.val (.int p0), .val (.int p1), .val (.int p2), .val (.long q3), .second, .val (.long q4), .second, .val (.int (own_t0_3 p0 p1 p2 q3 q4)), .val (.int (own_t0_16 p0 p1 p2 q3 q4)), .val (.ref bm113), .val (.ref bm114), .val (.ref b115), .val (.ref b123), .unset, .unset, .unset] [(.int (2 : Int32)), (.int (own_t0_16 p0 p1 p2 q3 q4))])) (fun t k => XS.iconst X126.her hx rfl (hb hby at_135) k) ?_
            refine own_st (f' := (mkF m 147 #[.val (.int p0), .val (.int p1), .val (.int p2), .val (.long q3), .second, .val (.long q4), .second, .val (.int (own_t0_3 p0 p1 p2 q3 q4)), .val (.int (own_t0_16 p0 p1 p2 q3 q4)), .val (.ref bm113), .val (.ref bm114), .val (.ref b115), .val (.ref b123), .unset, .unset, .unset] [])) (fun t k => XS.icmpYes X126.her hx rfl (pc0 := 136) (pc' := 147) rfl (hb hby at_136) rfl (flt (own_nl (by decide) hc127 : ¬ ((2 : Int32) < (own_t0_16 p0 p1 p2 q3 q4)))).2.2.2 (by decide) (by decide) k) ?_
            refine own_newO X126 hx hZ hown (own_w75 hw) (own_w76 hw) (own_w77 hw) (hb hby at_147) (by decide) (by decide) ?_
            intro T137 h137 b137 g137 q137 X137 E137 A137 D137
            have lt_vd_b137 : vd < b137 := Nat.lt_of_lt_of_le B126_vd.lt (Nat.le_of_eq g137.symm)
            have ne_vd_b137 : vd ≠ b137 := Nat.ne_of_lt (Nat.lt_of_lt_of_le B126_vd.lt (Nat.le_of_eq g137.symm))
            have B137_vd := B126_vd.ext E137
            have lt_bg118_b137 : bg118 < b137 := Nat.lt_of_lt_of_le B126_bg118.lt (Nat.le_of_eq g137.symm)
            have ne_bg118_b137 : bg118 ≠ b137 := Nat.ne_of_lt (Nat.lt_of_lt_of_le B126_bg118.lt (Nat.le_of_eq g137.symm))
            have B137_bg118 := B126_bg118.ext E137
            have lt_bg126_b137 : bg126 < b137 := Nat.lt_of_lt_of_le Bg126.lt (Nat.le_of_eq g137.symm)
            have ne_bg126_b137 : bg126 ≠ b137 := Nat.ne_of_lt (Nat.lt_of_lt_of_le Bg126.lt (Nat.le_of_eq g137.symm))
            have B137_bg126 := Bg126.ext E137
            have lt_bm113_b137 : bm113 < b137 := Nat.lt_of_lt_of_le A126_bm113.lt (Nat.le_of_eq g137.symm)
            have ne_bm113_b137 : bm113 ≠ b137 := Nat.ne_of_lt (Nat.lt_of_lt_of_le A126_bm113.lt (Nat.le_of_eq g137.symm))
            have A137_bm113 := A126_bm113.ext E137
            have lt_bm114_b137 : bm114 < b137 := Nat.lt_of_lt_of_le A126_bm114.lt (Nat.le_of_eq g137.symm)
            have ne_bm114_b137 : bm114 ≠ b137 := Nat.ne_of_lt (Nat.lt_of_lt_of_le A126_bm114.lt (Nat.le_of_eq g137.symm))
            have A137_bm114 := A126_bm114.ext E137
            have lt_b115_b137 : b115 < b137 := Nat.lt_of_lt_of_le A126_b115.lt (Nat.le_of_eq g137.symm)
            have ne_b115_b137 : b115 ≠ b137 := Nat.ne_of_lt (Nat.lt_of_lt_of_le A126_b115.lt (Nat.le_of_eq g137.symm))
            have A137_b115 := A126_b115.ext E137
            have lt_b123_b137 : b123 < b137 := Nat.lt_of_lt_of_le Ea126.lt (Nat.le_of_eq g137.symm)
            have ne_b123_b137 : b123 ≠ b137 := Nat.ne_of_lt (Nat.lt_of_lt_of_le Ea126.lt (Nat.le_of_eq g137.symm))
            have A137_b123 := Ea126.ext E137
            have F137_bm113_cents := F126_bm113_cents.ext E137
            have F137_bm114_cents := F126_bm114_cents.ext E137
            have F137_b115_modCount := F126_b115_modCount.ext E137
            have F137_b115_elementData := F126_b115_elementData.ext E137
            have F137_b115_size := F126_b115_size.ext E137
            have F137_b123_modCount := Fm126.ext E137
            have F137_b123_elementData := Fe126.ext E137
            have F137_b123_size := Fs126.ext E137
            have S137_DEFAULTCAPACITY_EMPTY_ELEMENTDATA := Sk126.ext E137
            have ga_b137 : n0 ≤ b137 := Nat.le_trans Z0 q137
            have Zn137 : n0 ≤ h137.size := Nat.le_trans Zn126 E137.1
            have F137_held : Fld Z h137 b137 "com/example/bidwright/bidwright/allocation/Supply" "held" "I" (.int (0 : Int32)) := D137 (Or.inr (own_w83 hw)) (ty := .int) (by decide)
            have F137_costs : Fld Z h137 b137 "com/example/bidwright/bidwright/allocation/Supply" "costs" "[J" .null := D137 (Or.inr (own_w129 hw)) (ty := (.array .long)) (by decide)
            have F137_revenues : Fld Z h137 b137 "com/example/bidwright/bidwright/allocation/Supply" "revenues" "[J" .null := D137 (Or.inr (own_w131 hw)) (ty := (.array .long)) (by decide)
            refine own_st (f' := (mkF m 151 #[.val (.int p0), .val (.int p1), .val (.int p2), .val (.long q3), .second, .val (.long q4), .second, .val (.int (own_t0_3 p0 p1 p2 q3 q4)), .val (.int (own_t0_16 p0 p1 p2 q3 q4)), .val (.ref bm113), .val (.ref bm114), .val (.ref b115), .val (.ref b123), .unset, .unset, .unset] [(.ref b137), (.ref b137)])) (fun t k => XS.dup X137.her hx rfl (hb hby at_150) rfl rfl k) ?_
            refine own_st (f' := (mkF m 152 #[.val (.int p0), .val (.int p1), .val (.int p2), .val (.long q3), .second, .val (.long q4), .second, .val (.int (own_t0_3 p0 p1 p2 q3 q4)), .val (.int (own_t0_16 p0 p1 p2 q3 q4)), .val (.ref bm113), .val (.ref bm114), .val (.ref b115), .val (.ref b123), .unset, .unset, .unset] [(.int p0), (.ref b137), (.ref b137)])) (fun t k => XS.iloadN X137.her hx rfl (hb hby at_151) rfl k) ?_
            refine own_st (f' := (mkF m 154 #[.val (.int p0), .val (.int p1), .val (.int p2), .val (.long q3), .second, .val (.long q4), .second, .val (.int (own_t0_3 p0 p1 p2 q3 q4)), .val (.int (own_t0_16 p0 p1 p2 q3 q4)), .val (.ref bm113), .val (.ref bm114), .val (.ref b115), .val (.ref b123), .unset, .unset, .unset] [(.ref b115), (.int p0), (.ref b137), (.ref b137)])) (fun t k => XS.aload X137.her hx rfl (hb hby at_152) rfl rfl k) ?_
            refine own_st (f' := (mkF m 156 #[.val (.int p0), .val (.int p1), .val (.int p2), .val (.long q3), .second, .val (.long q4), .second, .val (.int (own_t0_3 p0 p1 p2 q3 q4)), .val (.int (own_t0_16 p0 p1 p2 q3 q4)), .val (.ref bm113), .val (.ref bm114), .val (.ref b115), .val (.ref b123), .unset, .unset, .unset] [(.ref b123), (.ref b115), (.int p0), (.ref b137), (.ref b137)])) (fun t k => XS.aload X137.her hx rfl (hb hby at_154) rfl rfl k) ?_
            have LS138_2 : own_LS Z h137 b137 b115 [(bm113, (own_t0_27 p0 p1 p2 q3 q4)), (bm114, (own_t0_42 p0 p1 p2 q3 q4)), (bm113, (own_t0_27 p0 p1 p2 q3 q4))] := ⟨lt_b115_b137, A137_b115, F137_b115_size, (Or.inr ⟨bg118, lt_bg118_b137, F137_b115_elementData, B137_bg118⟩), (own_qS ⟨lt_bm113_b137, A137_bm113, F137_bm113_cents, own_am27 p0 p1 p2 q3 q4⟩ (own_qS ⟨lt_bm114_b137, A137_bm114, F137_bm114_cents, own_am42 p0 p1 p2 q3 q4⟩ (own_qS ⟨lt_bm113_b137, A137_bm113, F137_bm113_cents, own_am27 p0 p1 p2 q3 q4⟩ own_q0)))⟩
            have LS138_3 : own_LS Z h137 b137 b123 [(bm114, (own_t0_42 p0 p1 p2 q3 q4))] := ⟨lt_b123_b137, A137_b123, F137_b123_size, (Or.inr ⟨bg126, lt_bg126_b137, F137_b123_elementData, B137_bg126⟩), (own_qS ⟨lt_bm114_b137, A137_bm114, F137_bm114_cents, own_am42 p0 p1 p2 q3 q4⟩ own_q0)⟩
            refine own_callC (y := (⟨"com/example/bidwright/bidwright/allocation/Supply", "<init>", "(ILjava/util/List;Ljava/util/List;)V"⟩ : MethodName)) (W := 1) [(.int p0), (.ref b115), (.ref b123)] X137 hx hZ hown rfl (own_w78 hw) (own_w79 hw) (own_w77 hw) (own_w80 hw) (by decide) (own_c13 l Z a0 hw h137 n0 Zn137 b137 p0 b115 b123 b137 _ _ A137 F137_held F137_costs F137_revenues ga_b137 (Nat.le_refl _) LS138_2 LS138_3 (by show 3 ≤ 3; decide) (by show 1 ≤ 3; decide)) (allS (Or.inr q137) all0) (by decide) (by decide) (by decide) (by decide) (by rw [hml]; rfl) own_pd14 rfl rfl (Nat.le_of_eq rfl) (hb hby at_156) ?_
            rintro v138 T138 h138 X138 K138 ⟨rfl, Ax138, Fh138, bt138, La138, Fc138, Bt138, hl138⟩
            have B138_vd := B137_vd.keep K138 (ninS ne_vd_b137 nin0)
            have B138_bg118 := B137_bg118.keep K138 (ninS ne_bg118_b137 nin0)
            have B138_bg126 := B137_bg126.keep K138 (ninS ne_bg126_b137 nin0)
            have F138_bm113_cents := F137_bm113_cents.keep K138 (ninS ne_bm113_b137 nin0)
            have F138_bm114_cents := F137_bm114_cents.keep K138 (ninS ne_bm114_b137 nin0)
            have F138_b115_modCount := F137_b115_modCount.keep K138 (ninS ne_b115_b137 nin0)
            have F138_b115_elementData := F137_b115_elementData.keep K138 (ninS ne_b115_b137 nin0)
            have F138_b115_size := F137_b115_size.keep K138 (ninS ne_b115_b137 nin0)
            have F138_b123_modCount := F137_b123_modCount.keep K138 (ninS ne_b123_b137 nin0)
            have F138_b123_elementData := F137_b123_elementData.keep K138 (ninS ne_b123_b137 nin0)
            have F138_b123_size := F137_b123_size.keep K138 (ninS ne_b123_b137 nin0)
            have A138_bm113 := A137_bm113.keep K138
            have A138_bm114 := A137_bm114.keep K138
            have A138_b115 := A137_b115.keep K138
            have A138_b123 := A137_b123.keep K138
            have A138_b137 := A137.keep K138
            have Zn138 : n0 ≤ h138.size := Nat.le_trans Zn137 K138.1
            show own_G p e below _ T138 (mkF m 159 #[.val (.int p0), .val (.int p1), .val (.int p2), .val (.long q3), .second, .val (.long q4), .second, .val (.int (own_t0_3 p0 p1 p2 q3 q4)), .val (.int (own_t0_16 p0 p1 p2 q3 q4)), .val (.ref bm113), .val (.ref bm114), .val (.ref b115), .val (.ref b123), .unset, .unset, .unset] [(.ref b137)])
            refine own_st (f' := (mkF m 161 #[.val (.int p0), .val (.int p1), .val (.int p2), .val (.long q3), .second, .val (.long q4), .second, .val (.int (own_t0_3 p0 p1 p2 q3 q4)), .val (.int (own_t0_16 p0 p1 p2 q3 q4)), .val (.ref bm113), .val (.ref bm114), .val (.ref b115), .val (.ref b123), .val (.ref b137), .unset, .unset] [])) (fun t k => XS.astore X138.her hx rfl (hb hby at_159) rfl rfl (l' := #[.val (.int p0), .val (.int p1), .val (.int p2), .val (.long q3), .second, .val (.long q4), .second, .val (.int (own_t0_3 p0 p1 p2 q3 q4)), .val (.int (own_t0_16 p0 p1 p2 q3 q4)), .val (.ref bm113), .val (.ref bm114), .val (.ref b115), .val (.ref b123), .val (.ref b137), .unset, .unset]) rfl k) ?_
            refine own_st (f' := (mkF m 162 #[.val (.int p0), .val (.int p1), .val (.int p2), .val (.long q3), .second, .val (.long q4), .second, .val (.int (own_t0_3 p0 p1 p2 q3 q4)), .val (.int (own_t0_16 p0 p1 p2 q3 q4)), .val (.ref bm113), .val (.ref bm114), .val (.ref b115), .val (.ref b123), .val (.ref b137), .unset, .unset] [(.int p0)])) (fun t k => XS.iloadN X138.her hx rfl (hb hby at_161) rfl k) ?_
            refine own_st (f' := (mkF m 163 #[.val (.int p0), .val (.int p1), .val (.int p2), .val (.long q3), .second, .val (.long q4), .second, .val (.int (own_t0_3 p0 p1 p2 q3 q4)), .val (.int (own_t0_16 p0 p1 p2 q3 q4)), .val (.ref bm113), .val (.ref bm114), .val (.ref b115), .val (.ref b123), .val (.ref b137), .unset, .unset] [(.long (p0.toInt64))])) (fun t k => XS.i2l X138.her hx rfl (hb hby at_162) rfl k) ?_
            refine own_st (f' := (mkF m 165 #[.val (.int p0), .val (.int p1), .val (.int p2), .val (.long q3), .second, .val (.long q4), .second, .val (.int (own_t0_3 p0 p1 p2 q3 q4)), .val (.int (own_t0_16 p0 p1 p2 q3 q4)), .val (.ref bm113), .val (.ref bm114), .val (.ref b115), .val (.ref b123), .val (.ref b137), .unset, .unset] [(.int (own_t0_3 p0 p1 p2 q3 q4)), (.long (p0.toInt64))])) (fun t k => XS.iload X138.her hx rfl (hb hby at_163) rfl k) ?_
            refine own_st (f' := (mkF m 166 #[.val (.int p0), .val (.int p1), .val (.int p2), .val (.long q3), .second, .val (.long q4), .second, .val (.int (own_t0_3 p0 p1 p2 q3 q4)), .val (.int (own_t0_16 p0 p1 p2 q3 q4)), .val (.ref bm113), .val (.ref bm114), .val (.ref b115), .val (.ref b123), .val (.ref b137), .unset, .unset] [(.long ((own_t0_3 p0 p1 p2 q3 q4).toInt64)), (.long (p0.toInt64))])) (fun t k => XS.i2l X138.her hx rfl (hb hby at_165) rfl k) ?_
            refine own_st (f' := (mkF m 167 #[.val (.int p0), .val (.int p1), .val (.int p2), .val (.long q3), .second, .val (.long q4), .second, .val (.int (own_t0_3 p0 p1 p2 q3 q4)), .val (.int (own_t0_16 p0 p1 p2 q3 q4)), .val (.ref bm113), .val (.ref bm114), .val (.ref b115), .val (.ref b123), .val (.ref b137), .unset, .unset] [(.long ((p0.toInt64) + ((own_t0_3 p0 p1 p2 q3 q4).toInt64)))])) (fun t k => XS.ladd X138.her hx rfl (hb hby at_166) rfl k) ?_
            refine own_st (f' := (mkF m 169 #[.val (.int p0), .val (.int p1), .val (.int p2), .val (.long q3), .second, .val (.long q4), .second, .val (.int (own_t0_3 p0 p1 p2 q3 q4)), .val (.int (own_t0_16 p0 p1 p2 q3 q4)), .val (.ref bm113), .val (.ref bm114), .val (.ref b115), .val (.ref b123), .val (.ref b137), .val (.long (own_t0_167 p0 p1 p2 q3 q4)), .second] [])) (fun t k => XS.lstore X138.her hx rfl (hb hby at_167) rfl (l' := #[.val (.int p0), .val (.int p1), .val (.int p2), .val (.long q3), .second, .val (.long q4), .second, .val (.int (own_t0_3 p0 p1 p2 q3 q4)), .val (.int (own_t0_16 p0 p1 p2 q3 q4)), .val (.ref bm113), .val (.ref bm114), .val (.ref b115), .val (.ref b123), .val (.ref b137), .val (.long (own_t0_167 p0 p1 p2 q3 q4)), .second]) rfl k) ?_
            refine own_st (f' := (mkF m 171 #[.val (.int p0), .val (.int p1), .val (.int p2), .val (.long q3), .second, .val (.long q4), .second, .val (.int (own_t0_3 p0 p1 p2 q3 q4)), .val (.int (own_t0_16 p0 p1 p2 q3 q4)), .val (.ref bm113), .val (.ref bm114), .val (.ref b115), .val (.ref b123), .val (.ref b137), .val (.long (own_t0_167 p0 p1 p2 q3 q4)), .second] [(.ref b137)])) (fun t k => XS.aload X138.her hx rfl (hb hby at_169) rfl rfl k) ?_
            refine own_callVP (y := (⟨"com/example/bidwright/bidwright/allocation/Supply", "most", "()J"⟩ : MethodName)) (W := 0) [] X138 hx hZ hown (own_w132 hw) (own_w133 hw) (own_w135 hw) (own_w134 hw) (own_w77 hw) (own_w136 hw) (by decide) Ax138 (own_c22 l Z a0 hw h138 n0 Zn138 b137 p0 (4 : Int32) bt138 _ Fh138 Fc138 Bt138 (by rw [hl138]; rfl)) (by decide) (by decide) (by decide) (by decide) (by rw [hml]; rfl) own_pd11 rfl rfl (Nat.le_of_eq rfl) (hb hby at_171) ?_
            intro T139 X139
            show own_G p e below _ T139 (mkF m 174 #[.val (.int p0), .val (.int p1), .val (.int p2), .val (.long q3), .second, .val (.long q4), .second, .val (.int (own_t0_3 p0 p1 p2 q3 q4)), .val (.int (own_t0_16 p0 p1 p2 q3 q4)), .val (.ref bm113), .val (.ref bm114), .val (.ref b115), .val (.ref b123), .val (.ref b137), .val (.long (own_t0_167 p0 p1 p2 q3 q4)), .second] [(.long ((p0.toInt64 + (4 : Int32).toInt64) - 1))])
            refine own_st (f' := (mkF m 176 #[.val (.int p0), .val (.int p1), .val (.int p2), .val (.long q3), .second, .val (.long q4), .second, .val (.int (own_t0_3 p0 p1 p2 q3 q4)), .val (.int (own_t0_16 p0 p1 p2 q3 q4)), .val (.ref bm113), .val (.ref bm114), .val (.ref b115), .val (.ref b123), .val (.ref b137), .val (.long (own_t0_167 p0 p1 p2 q3 q4)), .second] [(.long (own_t0_167 p0 p1 p2 q3 q4)), (.long ((p0.toInt64 + (4 : Int32).toInt64) - 1))])) (fun t k => XS.lload X139.her hx rfl (hb hby at_174) rfl k) ?_
            refine own_st (f' := (mkF m 177 #[.val (.int p0), .val (.int p1), .val (.int p2), .val (.long q3), .second, .val (.long q4), .second, .val (.int (own_t0_3 p0 p1 p2 q3 q4)), .val (.int (own_t0_16 p0 p1 p2 q3 q4)), .val (.ref bm113), .val (.ref bm114), .val (.ref b115), .val (.ref b123), .val (.ref b137), .val (.long (own_t0_167 p0 p1 p2 q3 q4)), .second] [(.int (lcmpW ((p0.toInt64 + (4 : Int32).toInt64) - 1) (own_t0_167 p0 p1 p2 q3 q4)))])) (fun t k => XS.lcmp X139.her hx rfl (hb hby at_176) rfl k) ?_
            refine own_st (f' := (mkF m 180 #[.val (.int p0), .val (.int p1), .val (.int p2), .val (.long q3), .second, .val (.long q4), .second, .val (.int (own_t0_3 p0 p1 p2 q3 q4)), .val (.int (own_t0_16 p0 p1 p2 q3 q4)), .val (.ref bm113), .val (.ref bm114), .val (.ref b115), .val (.ref b123), .val (.ref b137), .val (.long (own_t0_167 p0 p1 p2 q3 q4)), .second] [])) (fun t k => XS.ifNo X139.her hx rfl (hb hby at_177) rfl ((if0 _ _).trans (teq ((lw_eq _ _).mpr (own_fin _ _ _ (by rw [own_nb3 p0 p1 p2 q3 q4 hc121]; decide)) : (lcmpW ((p0.toInt64 + (4 : Int32).toInt64) - 1) (own_t0_167 p0 p1 p2 q3 q4)) = (0 : Int32))).2) k) ?_
            refine own_st (f' := (mkF m 181 #[.val (.int p0), .val (.int p1), .val (.int p2), .val (.long q3), .second, .val (.long q4), .second, .val (.int (own_t0_3 p0 p1 p2 q3 q4)), .val (.int (own_t0_16 p0 p1 p2 q3 q4)), .val (.ref bm113), .val (.ref bm114), .val (.ref b115), .val (.ref b123), .val (.ref b137), .val (.long (own_t0_167 p0 p1 p2 q3 q4)), .second] [(.int (1 : Int32))])) (fun t k => XS.iconst X139.her hx rfl (hb hby at_180) k) ?_
            refine own_st (f' := (mkF m 185 #[.val (.int p0), .val (.int p1), .val (.int p2), .val (.long q3), .second, .val (.long q4), .second, .val (.int (own_t0_3 p0 p1 p2 q3 q4)), .val (.int (own_t0_16 p0 p1 p2 q3 q4)), .val (.ref bm113), .val (.ref bm114), .val (.ref b115), .val (.ref b123), .val (.ref b137), .val (.long (own_t0_167 p0 p1 p2 q3 q4)), .second] [(.int (1 : Int32))])) (fun t k => XS.goto X139.her hx rfl (pc0 := 181) (pc' := 185) rfl (hb hby at_181) (by decide) (by decide) k) ?_
            refine own_retN (t := .boolean) X139 hx hret hlk (by simp) (hb hby at_185) (by first | decide | omega) (by first | decide | omega) ?_
            exact congrArg (fun q => some (Value.int q)) (by decide)
        · refine own_st (f' := (mkF m 119 #[.val (.int p0), .val (.int p1), .val (.int p2), .val (.long q3), .second, .val (.long q4), .second, .val (.int (own_t0_3 p0 p1 p2 q3 q4)), .val (.int (own_t0_16 p0 p1 p2 q3 q4)), .val (.ref bm113), .val (.ref bm114), .val (.ref b115), .val (.ref b123), .unset, .unset, .unset] [])) (fun t k => XS.ifYes X124.her hx rfl (pc0 := 108) (pc' := 119) rfl (hb hby at_108) rfl ((if0 _ _).trans (flt hc125).2.2.2) (by decide) (by decide) k) ?_
          refine own_st (f' := (mkF m 121 #[.val (.int p0), .val (.int p1), .val (.int p2), .val (.long q3), .second, .val (.long q4), .second, .val (.int (own_t0_3 p0 p1 p2 q3 q4)), .val (.int (own_t0_16 p0 p1 p2 q3 q4)), .val (.ref bm113), .val (.ref bm114), .val (.ref b115), .val (.ref b123), .unset, .unset, .unset] [(.int (own_t0_16 p0 p1 p2 q3 q4))])) (fun t k => XS.iload X124.her hx rfl (hb hby at_119) rfl k) ?_
          refine own_st (f' := (mkF m 122 #[.val (.int p0), .val (.int p1), .val (.int p2), .val (.long q3), .second, .val (.long q4), .second, .val (.int (own_t0_3 p0 p1 p2 q3 q4)), .val (.int (own_t0_16 p0 p1 p2 q3 q4)), .val (.ref bm113), .val (.ref bm114), .val (.ref b115), .val (.ref b123), .unset, .unset, .unset] [(.int (1 : Int32)), (.int (own_t0_16 p0 p1 p2 q3 q4))])) (fun t k => XS.iconst X124.her hx rfl (hb hby at_121) k) ?_
          refine own_st (f' := (mkF m 133 #[.val (.int p0), .val (.int p1), .val (.int p2), .val (.long q3), .second, .val (.long q4), .second, .val (.int (own_t0_3 p0 p1 p2 q3 q4)), .val (.int (own_t0_16 p0 p1 p2 q3 q4)), .val (.ref bm113), .val (.ref bm114), .val (.ref b115), .val (.ref b123), .unset, .unset, .unset] [])) (fun t k => XS.icmpYes X124.her hx rfl (pc0 := 122) (pc' := 133) rfl (hb hby at_122) rfl (flt (own_nl (by decide) hc125 : ¬ ((1 : Int32) < (own_t0_16 p0 p1 p2 q3 q4)))).2.2.2 (by decide) (by decide) k) ?_
          refine own_st (f' := (mkF m 135 #[.val (.int p0), .val (.int p1), .val (.int p2), .val (.long q3), .second, .val (.long q4), .second, .val (.int (own_t0_3 p0 p1 p2 q3 q4)), .val (.int (own_t0_16 p0 p1 p2 q3 q4)), .val (.ref bm113), .val (.ref bm114), .val (.ref b115), .val (.ref b123), .unset, .unset, .unset] [(.int (own_t0_16 p0 p1 p2 q3 q4))])) (fun t k => XS.iload X124.her hx rfl (hb hby at_133) rfl k) ?_
          refine own_st (f' := (mkF m 136 #[.val (.int p0), .val (.int p1), .val (.int p2), .val (.long q3), .second, .val (.long q4), .second, .val (.int (own_t0_3 p0 p1 p2 q3 q4)), .val (.int (own_t0_16 p0 p1 p2 q3 q4)), .val (.ref bm113), .val (.ref bm114), .val (.ref b115), .val (.ref b123), .unset, .unset, .unset] [(.int (2 : Int32)), (.int (own_t0_16 p0 p1 p2 q3 q4))])) (fun t k => XS.iconst X124.her hx rfl (hb hby at_135) k) ?_
          refine own_st (f' := (mkF m 147 #[.val (.int p0), .val (.int p1), .val (.int p2), .val (.long q3), .second, .val (.long q4), .second, .val (.int (own_t0_3 p0 p1 p2 q3 q4)), .val (.int (own_t0_16 p0 p1 p2 q3 q4)), .val (.ref bm113), .val (.ref bm114), .val (.ref b115), .val (.ref b123), .unset, .unset, .unset] [])) (fun t k => XS.icmpYes X124.her hx rfl (pc0 := 136) (pc' := 147) rfl (hb hby at_136) rfl (flt (own_nl (by decide) hc125 : ¬ ((2 : Int32) < (own_t0_16 p0 p1 p2 q3 q4)))).2.2.2 (by decide) (by decide) k) ?_
          refine own_newO X124 hx hZ hown (own_w75 hw) (own_w76 hw) (own_w77 hw) (hb hby at_147) (by decide) (by decide) ?_
          intro T140 h140 b140 g140 q140 X140 E140 A140 D140
          have lt_vd_b140 : vd < b140 := Nat.lt_of_lt_of_le B124_vd.lt (Nat.le_of_eq g140.symm)
          have ne_vd_b140 : vd ≠ b140 := Nat.ne_of_lt (Nat.lt_of_lt_of_le B124_vd.lt (Nat.le_of_eq g140.symm))
          have B140_vd := B124_vd.ext E140
          have lt_bg118_b140 : bg118 < b140 := Nat.lt_of_lt_of_le B124_bg118.lt (Nat.le_of_eq g140.symm)
          have ne_bg118_b140 : bg118 ≠ b140 := Nat.ne_of_lt (Nat.lt_of_lt_of_le B124_bg118.lt (Nat.le_of_eq g140.symm))
          have B140_bg118 := B124_bg118.ext E140
          have lt_bm113_b140 : bm113 < b140 := Nat.lt_of_lt_of_le A124_bm113.lt (Nat.le_of_eq g140.symm)
          have ne_bm113_b140 : bm113 ≠ b140 := Nat.ne_of_lt (Nat.lt_of_lt_of_le A124_bm113.lt (Nat.le_of_eq g140.symm))
          have A140_bm113 := A124_bm113.ext E140
          have lt_bm114_b140 : bm114 < b140 := Nat.lt_of_lt_of_le A124_bm114.lt (Nat.le_of_eq g140.symm)
          have ne_bm114_b140 : bm114 ≠ b140 := Nat.ne_of_lt (Nat.lt_of_lt_of_le A124_bm114.lt (Nat.le_of_eq g140.symm))
          have A140_bm114 := A124_bm114.ext E140
          have lt_b115_b140 : b115 < b140 := Nat.lt_of_lt_of_le A124_b115.lt (Nat.le_of_eq g140.symm)
          have ne_b115_b140 : b115 ≠ b140 := Nat.ne_of_lt (Nat.lt_of_lt_of_le A124_b115.lt (Nat.le_of_eq g140.symm))
          have A140_b115 := A124_b115.ext E140
          have lt_b123_b140 : b123 < b140 := Nat.lt_of_lt_of_le Ea124.lt (Nat.le_of_eq g140.symm)
          have ne_b123_b140 : b123 ≠ b140 := Nat.ne_of_lt (Nat.lt_of_lt_of_le Ea124.lt (Nat.le_of_eq g140.symm))
          have A140_b123 := Ea124.ext E140
          have F140_bm113_cents := F124_bm113_cents.ext E140
          have F140_bm114_cents := F124_bm114_cents.ext E140
          have F140_b115_modCount := F124_b115_modCount.ext E140
          have F140_b115_elementData := F124_b115_elementData.ext E140
          have F140_b115_size := F124_b115_size.ext E140
          have F140_b123_modCount := Fm124.ext E140
          have F140_b123_elementData := Fe124.ext E140
          have F140_b123_size := Fs124.ext E140
          have S140_DEFAULTCAPACITY_EMPTY_ELEMENTDATA := Sk124.ext E140
          have ga_b140 : n0 ≤ b140 := Nat.le_trans Z0 q140
          have Zn140 : n0 ≤ h140.size := Nat.le_trans Zn124 E140.1
          have F140_held : Fld Z h140 b140 "com/example/bidwright/bidwright/allocation/Supply" "held" "I" (.int (0 : Int32)) := D140 (Or.inr (own_w83 hw)) (ty := .int) (by decide)
          have F140_costs : Fld Z h140 b140 "com/example/bidwright/bidwright/allocation/Supply" "costs" "[J" .null := D140 (Or.inr (own_w129 hw)) (ty := (.array .long)) (by decide)
          have F140_revenues : Fld Z h140 b140 "com/example/bidwright/bidwright/allocation/Supply" "revenues" "[J" .null := D140 (Or.inr (own_w131 hw)) (ty := (.array .long)) (by decide)
          refine own_st (f' := (mkF m 151 #[.val (.int p0), .val (.int p1), .val (.int p2), .val (.long q3), .second, .val (.long q4), .second, .val (.int (own_t0_3 p0 p1 p2 q3 q4)), .val (.int (own_t0_16 p0 p1 p2 q3 q4)), .val (.ref bm113), .val (.ref bm114), .val (.ref b115), .val (.ref b123), .unset, .unset, .unset] [(.ref b140), (.ref b140)])) (fun t k => XS.dup X140.her hx rfl (hb hby at_150) rfl rfl k) ?_
          refine own_st (f' := (mkF m 152 #[.val (.int p0), .val (.int p1), .val (.int p2), .val (.long q3), .second, .val (.long q4), .second, .val (.int (own_t0_3 p0 p1 p2 q3 q4)), .val (.int (own_t0_16 p0 p1 p2 q3 q4)), .val (.ref bm113), .val (.ref bm114), .val (.ref b115), .val (.ref b123), .unset, .unset, .unset] [(.int p0), (.ref b140), (.ref b140)])) (fun t k => XS.iloadN X140.her hx rfl (hb hby at_151) rfl k) ?_
          refine own_st (f' := (mkF m 154 #[.val (.int p0), .val (.int p1), .val (.int p2), .val (.long q3), .second, .val (.long q4), .second, .val (.int (own_t0_3 p0 p1 p2 q3 q4)), .val (.int (own_t0_16 p0 p1 p2 q3 q4)), .val (.ref bm113), .val (.ref bm114), .val (.ref b115), .val (.ref b123), .unset, .unset, .unset] [(.ref b115), (.int p0), (.ref b140), (.ref b140)])) (fun t k => XS.aload X140.her hx rfl (hb hby at_152) rfl rfl k) ?_
          refine own_st (f' := (mkF m 156 #[.val (.int p0), .val (.int p1), .val (.int p2), .val (.long q3), .second, .val (.long q4), .second, .val (.int (own_t0_3 p0 p1 p2 q3 q4)), .val (.int (own_t0_16 p0 p1 p2 q3 q4)), .val (.ref bm113), .val (.ref bm114), .val (.ref b115), .val (.ref b123), .unset, .unset, .unset] [(.ref b123), (.ref b115), (.int p0), (.ref b140), (.ref b140)])) (fun t k => XS.aload X140.her hx rfl (hb hby at_154) rfl rfl k) ?_
          have LS141_2 : own_LS Z h140 b140 b115 [(bm113, (own_t0_27 p0 p1 p2 q3 q4)), (bm114, (own_t0_42 p0 p1 p2 q3 q4)), (bm113, (own_t0_27 p0 p1 p2 q3 q4))] := ⟨lt_b115_b140, A140_b115, F140_b115_size, (Or.inr ⟨bg118, lt_bg118_b140, F140_b115_elementData, B140_bg118⟩), (own_qS ⟨lt_bm113_b140, A140_bm113, F140_bm113_cents, own_am27 p0 p1 p2 q3 q4⟩ (own_qS ⟨lt_bm114_b140, A140_bm114, F140_bm114_cents, own_am42 p0 p1 p2 q3 q4⟩ (own_qS ⟨lt_bm113_b140, A140_bm113, F140_bm113_cents, own_am27 p0 p1 p2 q3 q4⟩ own_q0)))⟩
          have LS141_3 : own_LS Z h140 b140 b123 [] := ⟨lt_b123_b140, A140_b123, F140_b123_size, (Or.inl rfl), own_q0⟩
          refine own_callC (y := (⟨"com/example/bidwright/bidwright/allocation/Supply", "<init>", "(ILjava/util/List;Ljava/util/List;)V"⟩ : MethodName)) (W := 1) [(.int p0), (.ref b115), (.ref b123)] X140 hx hZ hown rfl (own_w78 hw) (own_w79 hw) (own_w77 hw) (own_w80 hw) (by decide) (own_c13 l Z a0 hw h140 n0 Zn140 b140 p0 b115 b123 b140 _ _ A140 F140_held F140_costs F140_revenues ga_b140 (Nat.le_refl _) LS141_2 LS141_3 (by show 3 ≤ 3; decide) (by show 0 ≤ 3; decide)) (allS (Or.inr q140) all0) (by decide) (by decide) (by decide) (by decide) (by rw [hml]; rfl) own_pd14 rfl rfl (Nat.le_of_eq rfl) (hb hby at_156) ?_
          rintro v141 T141 h141 X141 K141 ⟨rfl, Ax141, Fh141, bt141, La141, Fc141, Bt141, hl141⟩
          have B141_vd := B140_vd.keep K141 (ninS ne_vd_b140 nin0)
          have B141_bg118 := B140_bg118.keep K141 (ninS ne_bg118_b140 nin0)
          have F141_bm113_cents := F140_bm113_cents.keep K141 (ninS ne_bm113_b140 nin0)
          have F141_bm114_cents := F140_bm114_cents.keep K141 (ninS ne_bm114_b140 nin0)
          have F141_b115_modCount := F140_b115_modCount.keep K141 (ninS ne_b115_b140 nin0)
          have F141_b115_elementData := F140_b115_elementData.keep K141 (ninS ne_b115_b140 nin0)
          have F141_b115_size := F140_b115_size.keep K141 (ninS ne_b115_b140 nin0)
          have F141_b123_modCount := F140_b123_modCount.keep K141 (ninS ne_b123_b140 nin0)
          have F141_b123_elementData := F140_b123_elementData.keep K141 (ninS ne_b123_b140 nin0)
          have F141_b123_size := F140_b123_size.keep K141 (ninS ne_b123_b140 nin0)
          have A141_bm113 := A140_bm113.keep K141
          have A141_bm114 := A140_bm114.keep K141
          have A141_b115 := A140_b115.keep K141
          have A141_b123 := A140_b123.keep K141
          have A141_b140 := A140.keep K141
          have Zn141 : n0 ≤ h141.size := Nat.le_trans Zn140 K141.1
          show own_G p e below _ T141 (mkF m 159 #[.val (.int p0), .val (.int p1), .val (.int p2), .val (.long q3), .second, .val (.long q4), .second, .val (.int (own_t0_3 p0 p1 p2 q3 q4)), .val (.int (own_t0_16 p0 p1 p2 q3 q4)), .val (.ref bm113), .val (.ref bm114), .val (.ref b115), .val (.ref b123), .unset, .unset, .unset] [(.ref b140)])
          refine own_st (f' := (mkF m 161 #[.val (.int p0), .val (.int p1), .val (.int p2), .val (.long q3), .second, .val (.long q4), .second, .val (.int (own_t0_3 p0 p1 p2 q3 q4)), .val (.int (own_t0_16 p0 p1 p2 q3 q4)), .val (.ref bm113), .val (.ref bm114), .val (.ref b115), .val (.ref b123), .val (.ref b140), .unset, .unset] [])) (fun t k => XS.astore X141.her hx rfl (hb hby at_159) rfl rfl (l' := #[.val (.int p0), .val (.int p1), .val (.int p2), .val (.long q3), .second, .val (.long q4), .second, .val (.int (own_t0_3 p0 p1 p2 q3 q4)), .val (.int (own_t0_16 p0 p1 p2 q3 q4)), .val (.ref bm113), .val (.ref bm114), .val (.ref b115), .val (.ref b123), .val (.ref b140), .unset, .unset]) rfl k) ?_
          refine own_st (f' := (mkF m 162 #[.val (.int p0), .val (.int p1), .val (.int p2), .val (.long q3), .second, .val (.long q4), .second, .val (.int (own_t0_3 p0 p1 p2 q3 q4)), .val (.int (own_t0_16 p0 p1 p2 q3 q4)), .val (.ref bm113), .val (.ref bm114), .val (.ref b115), .val (.ref b123), .val (.ref b140), .unset, .unset] [(.int p0)])) (fun t k => XS.iloadN X141.her hx rfl (hb hby at_161) rfl k) ?_
          refine own_st (f' := (mkF m 163 #[.val (.int p0), .val (.int p1), .val (.int p2), .val (.long q3), .second, .val (.long q4), .second, .val (.int (own_t0_3 p0 p1 p2 q3 q4)), .val (.int (own_t0_16 p0 p1 p2 q3 q4)), .val (.ref bm113), .val (.ref bm114), .val (.ref b115), .val (.ref b123), .val (.ref b140), .unset, .unset] [(.long (p0.toInt64))])) (fun t k => XS.i2l X141.her hx rfl (hb hby at_162) rfl k) ?_
          refine own_st (f' := (mkF m 165 #[.val (.int p0), .val (.int p1), .val (.int p2), .val (.long q3), .second, .val (.long q4), .second, .val (.int (own_t0_3 p0 p1 p2 q3 q4)), .val (.int (own_t0_16 p0 p1 p2 q3 q4)), .val (.ref bm113), .val (.ref bm114), .val (.ref b115), .val (.ref b123), .val (.ref b140), .unset, .unset] [(.int (own_t0_3 p0 p1 p2 q3 q4)), (.long (p0.toInt64))])) (fun t k => XS.iload X141.her hx rfl (hb hby at_163) rfl k) ?_
          refine own_st (f' := (mkF m 166 #[.val (.int p0), .val (.int p1), .val (.int p2), .val (.long q3), .second, .val (.long q4), .second, .val (.int (own_t0_3 p0 p1 p2 q3 q4)), .val (.int (own_t0_16 p0 p1 p2 q3 q4)), .val (.ref bm113), .val (.ref bm114), .val (.ref b115), .val (.ref b123), .val (.ref b140), .unset, .unset] [(.long ((own_t0_3 p0 p1 p2 q3 q4).toInt64)), (.long (p0.toInt64))])) (fun t k => XS.i2l X141.her hx rfl (hb hby at_165) rfl k) ?_
          refine own_st (f' := (mkF m 167 #[.val (.int p0), .val (.int p1), .val (.int p2), .val (.long q3), .second, .val (.long q4), .second, .val (.int (own_t0_3 p0 p1 p2 q3 q4)), .val (.int (own_t0_16 p0 p1 p2 q3 q4)), .val (.ref bm113), .val (.ref bm114), .val (.ref b115), .val (.ref b123), .val (.ref b140), .unset, .unset] [(.long ((p0.toInt64) + ((own_t0_3 p0 p1 p2 q3 q4).toInt64)))])) (fun t k => XS.ladd X141.her hx rfl (hb hby at_166) rfl k) ?_
          refine own_st (f' := (mkF m 169 #[.val (.int p0), .val (.int p1), .val (.int p2), .val (.long q3), .second, .val (.long q4), .second, .val (.int (own_t0_3 p0 p1 p2 q3 q4)), .val (.int (own_t0_16 p0 p1 p2 q3 q4)), .val (.ref bm113), .val (.ref bm114), .val (.ref b115), .val (.ref b123), .val (.ref b140), .val (.long (own_t0_167 p0 p1 p2 q3 q4)), .second] [])) (fun t k => XS.lstore X141.her hx rfl (hb hby at_167) rfl (l' := #[.val (.int p0), .val (.int p1), .val (.int p2), .val (.long q3), .second, .val (.long q4), .second, .val (.int (own_t0_3 p0 p1 p2 q3 q4)), .val (.int (own_t0_16 p0 p1 p2 q3 q4)), .val (.ref bm113), .val (.ref bm114), .val (.ref b115), .val (.ref b123), .val (.ref b140), .val (.long (own_t0_167 p0 p1 p2 q3 q4)), .second]) rfl k) ?_
          refine own_st (f' := (mkF m 171 #[.val (.int p0), .val (.int p1), .val (.int p2), .val (.long q3), .second, .val (.long q4), .second, .val (.int (own_t0_3 p0 p1 p2 q3 q4)), .val (.int (own_t0_16 p0 p1 p2 q3 q4)), .val (.ref bm113), .val (.ref bm114), .val (.ref b115), .val (.ref b123), .val (.ref b140), .val (.long (own_t0_167 p0 p1 p2 q3 q4)), .second] [(.ref b140)])) (fun t k => XS.aload X141.her hx rfl (hb hby at_169) rfl rfl k) ?_
          refine own_callVP (y := (⟨"com/example/bidwright/bidwright/allocation/Supply", "most", "()J"⟩ : MethodName)) (W := 0) [] X141 hx hZ hown (own_w132 hw) (own_w133 hw) (own_w135 hw) (own_w134 hw) (own_w77 hw) (own_w136 hw) (by decide) Ax141 (own_c22 l Z a0 hw h141 n0 Zn141 b140 p0 (4 : Int32) bt141 _ Fh141 Fc141 Bt141 (by rw [hl141]; rfl)) (by decide) (by decide) (by decide) (by decide) (by rw [hml]; rfl) own_pd11 rfl rfl (Nat.le_of_eq rfl) (hb hby at_171) ?_
          intro T142 X142
          show own_G p e below _ T142 (mkF m 174 #[.val (.int p0), .val (.int p1), .val (.int p2), .val (.long q3), .second, .val (.long q4), .second, .val (.int (own_t0_3 p0 p1 p2 q3 q4)), .val (.int (own_t0_16 p0 p1 p2 q3 q4)), .val (.ref bm113), .val (.ref bm114), .val (.ref b115), .val (.ref b123), .val (.ref b140), .val (.long (own_t0_167 p0 p1 p2 q3 q4)), .second] [(.long ((p0.toInt64 + (4 : Int32).toInt64) - 1))])
          refine own_st (f' := (mkF m 176 #[.val (.int p0), .val (.int p1), .val (.int p2), .val (.long q3), .second, .val (.long q4), .second, .val (.int (own_t0_3 p0 p1 p2 q3 q4)), .val (.int (own_t0_16 p0 p1 p2 q3 q4)), .val (.ref bm113), .val (.ref bm114), .val (.ref b115), .val (.ref b123), .val (.ref b140), .val (.long (own_t0_167 p0 p1 p2 q3 q4)), .second] [(.long (own_t0_167 p0 p1 p2 q3 q4)), (.long ((p0.toInt64 + (4 : Int32).toInt64) - 1))])) (fun t k => XS.lload X142.her hx rfl (hb hby at_174) rfl k) ?_
          refine own_st (f' := (mkF m 177 #[.val (.int p0), .val (.int p1), .val (.int p2), .val (.long q3), .second, .val (.long q4), .second, .val (.int (own_t0_3 p0 p1 p2 q3 q4)), .val (.int (own_t0_16 p0 p1 p2 q3 q4)), .val (.ref bm113), .val (.ref bm114), .val (.ref b115), .val (.ref b123), .val (.ref b140), .val (.long (own_t0_167 p0 p1 p2 q3 q4)), .second] [(.int (lcmpW ((p0.toInt64 + (4 : Int32).toInt64) - 1) (own_t0_167 p0 p1 p2 q3 q4)))])) (fun t k => XS.lcmp X142.her hx rfl (hb hby at_176) rfl k) ?_
          refine own_st (f' := (mkF m 180 #[.val (.int p0), .val (.int p1), .val (.int p2), .val (.long q3), .second, .val (.long q4), .second, .val (.int (own_t0_3 p0 p1 p2 q3 q4)), .val (.int (own_t0_16 p0 p1 p2 q3 q4)), .val (.ref bm113), .val (.ref bm114), .val (.ref b115), .val (.ref b123), .val (.ref b140), .val (.long (own_t0_167 p0 p1 p2 q3 q4)), .second] [])) (fun t k => XS.ifNo X142.her hx rfl (hb hby at_177) rfl ((if0 _ _).trans (teq ((lw_eq _ _).mpr (own_fin _ _ _ (by rw [own_nb3 p0 p1 p2 q3 q4 hc121]; decide)) : (lcmpW ((p0.toInt64 + (4 : Int32).toInt64) - 1) (own_t0_167 p0 p1 p2 q3 q4)) = (0 : Int32))).2) k) ?_
          refine own_st (f' := (mkF m 181 #[.val (.int p0), .val (.int p1), .val (.int p2), .val (.long q3), .second, .val (.long q4), .second, .val (.int (own_t0_3 p0 p1 p2 q3 q4)), .val (.int (own_t0_16 p0 p1 p2 q3 q4)), .val (.ref bm113), .val (.ref bm114), .val (.ref b115), .val (.ref b123), .val (.ref b140), .val (.long (own_t0_167 p0 p1 p2 q3 q4)), .second] [(.int (1 : Int32))])) (fun t k => XS.iconst X142.her hx rfl (hb hby at_180) k) ?_
          refine own_st (f' := (mkF m 185 #[.val (.int p0), .val (.int p1), .val (.int p2), .val (.long q3), .second, .val (.long q4), .second, .val (.int (own_t0_3 p0 p1 p2 q3 q4)), .val (.int (own_t0_16 p0 p1 p2 q3 q4)), .val (.ref bm113), .val (.ref bm114), .val (.ref b115), .val (.ref b123), .val (.ref b140), .val (.long (own_t0_167 p0 p1 p2 q3 q4)), .second] [(.int (1 : Int32))])) (fun t k => XS.goto X142.her hx rfl (pc0 := 181) (pc' := 185) rfl (hb hby at_181) (by decide) (by decide) k) ?_
          refine own_retN (t := .boolean) X142 hx hret hlk (by simp) (hb hby at_185) (by first | decide | omega) (by first | decide | omega) ?_
          exact congrArg (fun q => some (Value.int q)) (by decide)
      · refine own_st (f' := (mkF m 97 #[.val (.int p0), .val (.int p1), .val (.int p2), .val (.long q3), .second, .val (.long q4), .second, .val (.int (own_t0_3 p0 p1 p2 q3 q4)), .val (.int (own_t0_16 p0 p1 p2 q3 q4)), .val (.ref bm113), .val (.ref bm114), .val (.ref b115), .unset, .unset, .unset, .unset] [])) (fun t k => XS.icmpYes X120.her hx rfl (pc0 := 86) (pc' := 97) rfl (hb hby at_86) rfl (flt hc121).2.2.2 (by decide) (by decide) k) ?_
        refine own_newO X120 hx hZ hown (own_w23 hw) (own_w24 hw) (own_w25 hw) (hb hby at_97) (by decide) (by decide) ?_
        intro T143 h143 b143 g143 q143 X143 E143 A143 D143
        have lt_vd_b143 : vd < b143 := Nat.lt_of_lt_of_le B120_vd.lt (Nat.le_of_eq g143.symm)
        have ne_vd_b143 : vd ≠ b143 := Nat.ne_of_lt (Nat.lt_of_lt_of_le B120_vd.lt (Nat.le_of_eq g143.symm))
        have B143_vd := B120_vd.ext E143
        have lt_bg118_b143 : bg118 < b143 := Nat.lt_of_lt_of_le Bg120.lt (Nat.le_of_eq g143.symm)
        have ne_bg118_b143 : bg118 ≠ b143 := Nat.ne_of_lt (Nat.lt_of_lt_of_le Bg120.lt (Nat.le_of_eq g143.symm))
        have B143_bg118 := Bg120.ext E143
        have lt_bm113_b143 : bm113 < b143 := Nat.lt_of_lt_of_le A120_bm113.lt (Nat.le_of_eq g143.symm)
        have ne_bm113_b143 : bm113 ≠ b143 := Nat.ne_of_lt (Nat.lt_of_lt_of_le A120_bm113.lt (Nat.le_of_eq g143.symm))
        have A143_bm113 := A120_bm113.ext E143
        have lt_bm114_b143 : bm114 < b143 := Nat.lt_of_lt_of_le A120_bm114.lt (Nat.le_of_eq g143.symm)
        have ne_bm114_b143 : bm114 ≠ b143 := Nat.ne_of_lt (Nat.lt_of_lt_of_le A120_bm114.lt (Nat.le_of_eq g143.symm))
        have A143_bm114 := A120_bm114.ext E143
        have lt_b115_b143 : b115 < b143 := Nat.lt_of_lt_of_le Ea120.lt (Nat.le_of_eq g143.symm)
        have ne_b115_b143 : b115 ≠ b143 := Nat.ne_of_lt (Nat.lt_of_lt_of_le Ea120.lt (Nat.le_of_eq g143.symm))
        have A143_b115 := Ea120.ext E143
        have F143_bm113_cents := F120_bm113_cents.ext E143
        have F143_bm114_cents := F120_bm114_cents.ext E143
        have F143_b115_modCount := Fm120.ext E143
        have F143_b115_elementData := Fe120.ext E143
        have F143_b115_size := Fs120.ext E143
        have S143_DEFAULTCAPACITY_EMPTY_ELEMENTDATA := Sk120.ext E143
        have ga_b143 : n0 ≤ b143 := Nat.le_trans Z0 q143
        have Zn143 : n0 ≤ h143.size := Nat.le_trans Zn120 E143.1
        have F143_modCount : Fld Z h143 b143 "java/util/AbstractList" "modCount" "I" (.int (0 : Int32)) := D143 (Or.inl (own_w43 hw)) (ty := .int) (by decide)
        have F143_elementData : Fld Z h143 b143 "java/util/ArrayList" "elementData" "[Ljava/lang/Object;" .null := D143 (Or.inl (own_w46 hw)) (ty := (.array (.object "java/lang/Object"))) (by decide)
        have F143_size : Fld Z h143 b143 "java/util/ArrayList" "size" "I" (.int (0 : Int32)) := D143 (Or.inl (own_w55 hw)) (ty := .int) (by decide)
        refine own_st (f' := (mkF m 101 #[.val (.int p0), .val (.int p1), .val (.int p2), .val (.long q3), .second, .val (.long q4), .second, .val (.int (own_t0_3 p0 p1 p2 q3 q4)), .val (.int (own_t0_16 p0 p1 p2 q3 q4)), .val (.ref bm113), .val (.ref bm114), .val (.ref b115), .unset, .unset, .unset, .unset] [(.ref b143), (.ref b143)])) (fun t k => XS.dup X143.her hx rfl (hb hby at_100) rfl rfl k) ?_
        refine own_callC (y := (⟨"java/util/ArrayList", "<init>", "()V"⟩ : MethodName)) (W := 1) [] X143 hx hZ hown rfl (own_w26 hw) (own_w27 hw) (own_w25 hw) (own_w28 hw) (by decide) (own_c6 l Z a0 hw h143 n0 Zn143 b143 vd A143 F143_size F143_elementData F143_modCount ga_b143 S143_DEFAULTCAPACITY_EMPTY_ELEMENTDATA) (allS (Or.inr q143) all0) (by decide) (by decide) (by decide) (by decide) (by rw [hml]; rfl) own_pd1 rfl rfl (Nat.le_of_eq rfl) (hb hby at_101) ?_
        rintro v144 T144 h144 X144 K144 ⟨rfl, Ea144, Fs144, Fe144, Fm144⟩
        have B144_vd := B143_vd.keep K144 (ninS ne_vd_b143 nin0)
        have B144_bg118 := B143_bg118.keep K144 (ninS ne_bg118_b143 nin0)
        have F144_bm113_cents := F143_bm113_cents.keep K144 (ninS ne_bm113_b143 nin0)
        have F144_bm114_cents := F143_bm114_cents.keep K144 (ninS ne_bm114_b143 nin0)
        have F144_b115_modCount := F143_b115_modCount.keep K144 (ninS ne_b115_b143 nin0)
        have F144_b115_elementData := F143_b115_elementData.keep K144 (ninS ne_b115_b143 nin0)
        have F144_b115_size := F143_b115_size.keep K144 (ninS ne_b115_b143 nin0)
        have A144_bm113 := A143_bm113.keep K144
        have A144_bm114 := A143_bm114.keep K144
        have A144_b115 := A143_b115.keep K144
        have A144_b143 := A143.keep K144
        have Zn144 : n0 ≤ h144.size := Nat.le_trans Zn143 K144.1
        have Sk144 := own_Sta_keep S143_DEFAULTCAPACITY_EMPTY_ELEMENTDATA K144 (allS (own_exa_ns A143) all0)
        show own_G p e below _ T144 (mkF m 104 #[.val (.int p0), .val (.int p1), .val (.int p2), .val (.long q3), .second, .val (.long q4), .second, .val (.int (own_t0_3 p0 p1 p2 q3 q4)), .val (.int (own_t0_16 p0 p1 p2 q3 q4)), .val (.ref bm113), .val (.ref bm114), .val (.ref b115), .unset, .unset, .unset, .unset] [(.ref b143)])
        refine own_st (f' := (mkF m 106 #[.val (.int p0), .val (.int p1), .val (.int p2), .val (.long q3), .second, .val (.long q4), .second, .val (.int (own_t0_3 p0 p1 p2 q3 q4)), .val (.int (own_t0_16 p0 p1 p2 q3 q4)), .val (.ref bm113), .val (.ref bm114), .val (.ref b115), .val (.ref b143), .unset, .unset, .unset] [])) (fun t k => XS.astore X144.her hx rfl (hb hby at_104) rfl rfl (l' := #[.val (.int p0), .val (.int p1), .val (.int p2), .val (.long q3), .second, .val (.long q4), .second, .val (.int (own_t0_3 p0 p1 p2 q3 q4)), .val (.int (own_t0_16 p0 p1 p2 q3 q4)), .val (.ref bm113), .val (.ref bm114), .val (.ref b115), .val (.ref b143), .unset, .unset, .unset]) rfl k) ?_
        refine own_st (f' := (mkF m 108 #[.val (.int p0), .val (.int p1), .val (.int p2), .val (.long q3), .second, .val (.long q4), .second, .val (.int (own_t0_3 p0 p1 p2 q3 q4)), .val (.int (own_t0_16 p0 p1 p2 q3 q4)), .val (.ref bm113), .val (.ref bm114), .val (.ref b115), .val (.ref b143), .unset, .unset, .unset] [(.int (own_t0_16 p0 p1 p2 q3 q4))])) (fun t k => XS.iload X144.her hx rfl (hb hby at_106) rfl k) ?_
        by_cases hc145 : (0 : Int32) < (own_t0_16 p0 p1 p2 q3 q4)
        · refine own_st (f' := (mkF m 111 #[.val (.int p0), .val (.int p1), .val (.int p2), .val (.long q3), .second, .val (.long q4), .second, .val (.int (own_t0_3 p0 p1 p2 q3 q4)), .val (.int (own_t0_16 p0 p1 p2 q3 q4)), .val (.ref bm113), .val (.ref bm114), .val (.ref b115), .val (.ref b143), .unset, .unset, .unset] [])) (fun t k => XS.ifNo X144.her hx rfl (hb hby at_108) rfl ((if0 _ _).trans (tlt hc145).2.2.2) k) ?_
          refine own_st (f' := (mkF m 113 #[.val (.int p0), .val (.int p1), .val (.int p2), .val (.long q3), .second, .val (.long q4), .second, .val (.int (own_t0_3 p0 p1 p2 q3 q4)), .val (.int (own_t0_16 p0 p1 p2 q3 q4)), .val (.ref bm113), .val (.ref bm114), .val (.ref b115), .val (.ref b143), .unset, .unset, .unset] [(.ref b143)])) (fun t k => XS.aload X144.her hx rfl (hb hby at_111) rfl rfl k) ?_
          refine own_st (f' := (mkF m 115 #[.val (.int p0), .val (.int p1), .val (.int p2), .val (.long q3), .second, .val (.long q4), .second, .val (.int (own_t0_3 p0 p1 p2 q3 q4)), .val (.int (own_t0_16 p0 p1 p2 q3 q4)), .val (.ref bm113), .val (.ref bm114), .val (.ref b115), .val (.ref b143), .unset, .unset, .unset] [(.ref bm114), (.ref b143)])) (fun t k => XS.aload X144.her hx rfl (hb hby at_113) rfl rfl k) ?_
          refine own_callV (y := (⟨"java/util/ArrayList", "add", "(Ljava/lang/Object;)Z"⟩ : MethodName)) (W := 0) [(.ref bm114)] X144 hx hZ hown (own_w47 hw) (own_w48 hw) (own_w50 hw) (own_w49 hw) (own_w25 hw) (own_w51 hw) (by decide) Ea144 (own_add0 l Z a0 hw h144 n0 Zn144 b143 bm114 vd Ea144 Fs144 Fe144 Fm144 A144_bm114 B144_vd Sk144 ga_b143 ne_vd_b143) (allS (Or.inr q143) all0) (by decide) (by decide) (by decide) (by decide) (by rw [hml]; rfl) own_pd5 rfl rfl (Nat.le_of_eq rfl) (hb hby at_115) ?_
          rintro v146 T146 h146 X146 K146 ⟨rfl, bg146, qg146, Ea146, Fs146, Fe146, Fm146, Bg146⟩
          have B146_vd := B144_vd.keep K146 (ninS ne_vd_b143 nin0)
          have B146_bg118 := B144_bg118.keep K146 (ninS ne_bg118_b143 nin0)
          have F146_bm113_cents := F144_bm113_cents.keep K146 (ninS ne_bm113_b143 nin0)
          have F146_bm114_cents := F144_bm114_cents.keep K146 (ninS ne_bm114_b143 nin0)
          have F146_b115_modCount := F144_b115_modCount.keep K146 (ninS ne_b115_b143 nin0)
          have F146_b115_elementData := F144_b115_elementData.keep K146 (ninS ne_b115_b143 nin0)
          have F146_b115_size := F144_b115_size.keep K146 (ninS ne_b115_b143 nin0)
          have A146_bm113 := A144_bm113.keep K146
          have A146_bm114 := A144_bm114.keep K146
          have A146_b115 := A144_b115.keep K146
          have A146_b143 := Ea144.keep K146
          have Zn146 : n0 ≤ h146.size := Nat.le_trans Zn144 K146.1
          have ga_bg146 : n0 ≤ bg146 := Nat.le_trans Zn144 qg146
          have qa_bg146 : h0.size ≤ bg146 := Nat.le_trans X144.2.2.1 qg146
          have Sk146 := own_Sta_keep Sk144 K146 (allS (own_exa_ns Ea144) all0)
          have ne_bm113_bg146 : bm113 ≠ bg146 := Nat.ne_of_lt (Nat.lt_of_lt_of_le A144_bm113.lt qg146)
          have ne_bm114_bg146 : bm114 ≠ bg146 := Nat.ne_of_lt (Nat.lt_of_lt_of_le A144_bm114.lt qg146)
          have ne_b115_bg146 : b115 ≠ bg146 := Nat.ne_of_lt (Nat.lt_of_lt_of_le A144_b115.lt qg146)
          have ne_b143_bg146 : b143 ≠ bg146 := Nat.ne_of_lt (Nat.lt_of_lt_of_le Ea144.lt qg146)
          have ne_vd_bg146 : vd ≠ bg146 := Nat.ne_of_lt (Nat.lt_of_lt_of_le B144_vd.lt qg146)
          have ne_bg118_bg146 : bg118 ≠ bg146 := Nat.ne_of_lt (Nat.lt_of_lt_of_le B144_bg118.lt qg146)
          show own_G p e below _ T146 (mkF m 118 #[.val (.int p0), .val (.int p1), .val (.int p2), .val (.long q3), .second, .val (.long q4), .second, .val (.int (own_t0_3 p0 p1 p2 q3 q4)), .val (.int (own_t0_16 p0 p1 p2 q3 q4)), .val (.ref bm113), .val (.ref bm114), .val (.ref b115), .val (.ref b143), .unset, .unset, .unset] [(.int (1 : Int32))])
          refine own_st (f' := (mkF m 119 #[.val (.int p0), .val (.int p1), .val (.int p2), .val (.long q3), .second, .val (.long q4), .second, .val (.int (own_t0_3 p0 p1 p2 q3 q4)), .val (.int (own_t0_16 p0 p1 p2 q3 q4)), .val (.ref bm113), .val (.ref bm114), .val (.ref b115), .val (.ref b143), .unset, .unset, .unset] [])) (fun t k => XS.pop X146.her hx rfl (hb hby at_118) rfl rfl k) ?_
          refine own_st (f' := (mkF m 121 #[.val (.int p0), .val (.int p1), .val (.int p2), .val (.long q3), .second, .val (.long q4), .second, .val (.int (own_t0_3 p0 p1 p2 q3 q4)), .val (.int (own_t0_16 p0 p1 p2 q3 q4)), .val (.ref bm113), .val (.ref bm114), .val (.ref b115), .val (.ref b143), .unset, .unset, .unset] [(.int (own_t0_16 p0 p1 p2 q3 q4))])) (fun t k => XS.iload X146.her hx rfl (hb hby at_119) rfl k) ?_
          refine own_st (f' := (mkF m 122 #[.val (.int p0), .val (.int p1), .val (.int p2), .val (.long q3), .second, .val (.long q4), .second, .val (.int (own_t0_3 p0 p1 p2 q3 q4)), .val (.int (own_t0_16 p0 p1 p2 q3 q4)), .val (.ref bm113), .val (.ref bm114), .val (.ref b115), .val (.ref b143), .unset, .unset, .unset] [(.int (1 : Int32)), (.int (own_t0_16 p0 p1 p2 q3 q4))])) (fun t k => XS.iconst X146.her hx rfl (hb hby at_121) k) ?_
          by_cases hc147 : (1 : Int32) < (own_t0_16 p0 p1 p2 q3 q4)
          · refine own_st (f' := (mkF m 125 #[.val (.int p0), .val (.int p1), .val (.int p2), .val (.long q3), .second, .val (.long q4), .second, .val (.int (own_t0_3 p0 p1 p2 q3 q4)), .val (.int (own_t0_16 p0 p1 p2 q3 q4)), .val (.ref bm113), .val (.ref bm114), .val (.ref b115), .val (.ref b143), .unset, .unset, .unset] [])) (fun t k => XS.icmpNo X146.her hx rfl (hb hby at_122) rfl (tlt hc147).2.2.2 k) ?_
            refine own_st (f' := (mkF m 127 #[.val (.int p0), .val (.int p1), .val (.int p2), .val (.long q3), .second, .val (.long q4), .second, .val (.int (own_t0_3 p0 p1 p2 q3 q4)), .val (.int (own_t0_16 p0 p1 p2 q3 q4)), .val (.ref bm113), .val (.ref bm114), .val (.ref b115), .val (.ref b143), .unset, .unset, .unset] [(.ref b143)])) (fun t k => XS.aload X146.her hx rfl (hb hby at_125) rfl rfl k) ?_
            refine own_st (f' := (mkF m 129 #[.val (.int p0), .val (.int p1), .val (.int p2), .val (.long q3), .second, .val (.long q4), .second, .val (.int (own_t0_3 p0 p1 p2 q3 q4)), .val (.int (own_t0_16 p0 p1 p2 q3 q4)), .val (.ref bm113), .val (.ref bm114), .val (.ref b115), .val (.ref b143), .unset, .unset, .unset] [(.ref bm113), (.ref b143)])) (fun t k => XS.aload X146.her hx rfl (hb hby at_127) rfl rfl k) ?_
            refine own_callV (y := (⟨"java/util/ArrayList", "add", "(Ljava/lang/Object;)Z"⟩ : MethodName)) (W := 0) [(.ref bm113)] X146 hx hZ hown (own_w47 hw) (own_w48 hw) (own_w50 hw) (own_w49 hw) (own_w25 hw) (own_w51 hw) (by decide) Ea146 (own_add1 l Z a0 hw h146 n0 Zn146 b143 bm113 bg146 bm114 Ea146 Fs146 Fe146 Fm146 A146_bm113 Bg146 ga_b143 ga_bg146 ne_b143_bg146) (allS (Or.inr q143) (allS (Or.inr qa_bg146) all0)) (by decide) (by decide) (by decide) (by decide) (by rw [hml]; rfl) own_pd5 rfl rfl (Nat.le_of_eq rfl) (hb hby at_129) ?_
            rintro v148 T148 h148 X148 K148 ⟨rfl, Ea148, Fs148, Fe148, Fm148, Bg148⟩
            have B148_vd := B146_vd.keep K148 (ninS ne_vd_b143 (ninS ne_vd_bg146 nin0))
            have B148_bg118 := B146_bg118.keep K148 (ninS ne_bg118_b143 (ninS ne_bg118_bg146 nin0))
            have F148_bm113_cents := F146_bm113_cents.keep K148 (ninS ne_bm113_b143 (ninS ne_bm113_bg146 nin0))
            have F148_bm114_cents := F146_bm114_cents.keep K148 (ninS ne_bm114_b143 (ninS ne_bm114_bg146 nin0))
            have F148_b115_modCount := F146_b115_modCount.keep K148 (ninS ne_b115_b143 (ninS ne_b115_bg146 nin0))
            have F148_b115_elementData := F146_b115_elementData.keep K148 (ninS ne_b115_b143 (ninS ne_b115_bg146 nin0))
            have F148_b115_size := F146_b115_size.keep K148 (ninS ne_b115_b143 (ninS ne_b115_bg146 nin0))
            have A148_bm113 := A146_bm113.keep K148
            have A148_bm114 := A146_bm114.keep K148
            have A148_b115 := A146_b115.keep K148
            have A148_b143 := Ea146.keep K148
            have Zn148 : n0 ≤ h148.size := Nat.le_trans Zn146 K148.1
            have Sk148 := own_Sta_keep Sk146 K148 (allS (own_exa_ns Ea146) (allS (own_ra_ns Bg146) all0))
            show own_G p e below _ T148 (mkF m 132 #[.val (.int p0), .val (.int p1), .val (.int p2), .val (.long q3), .second, .val (.long q4), .second, .val (.int (own_t0_3 p0 p1 p2 q3 q4)), .val (.int (own_t0_16 p0 p1 p2 q3 q4)), .val (.ref bm113), .val (.ref bm114), .val (.ref b115), .val (.ref b143), .unset, .unset, .unset] [(.int (1 : Int32))])
            refine own_st (f' := (mkF m 133 #[.val (.int p0), .val (.int p1), .val (.int p2), .val (.long q3), .second, .val (.long q4), .second, .val (.int (own_t0_3 p0 p1 p2 q3 q4)), .val (.int (own_t0_16 p0 p1 p2 q3 q4)), .val (.ref bm113), .val (.ref bm114), .val (.ref b115), .val (.ref b143), .unset, .unset, .unset] [])) (fun t k => XS.pop X148.her hx rfl (hb hby at_132) rfl rfl k) ?_
            refine own_st (f' := (mkF m 135 #[.val (.int p0), .val (.int p1), .val (.int p2), .val (.long q3), .second, .val (.long q4), .second, .val (.int (own_t0_3 p0 p1 p2 q3 q4)), .val (.int (own_t0_16 p0 p1 p2 q3 q4)), .val (.ref bm113), .val (.ref bm114), .val (.ref b115), .val (.ref b143), .unset, .unset, .unset] [(.int (own_t0_16 p0 p1 p2 q3 q4))])) (fun t k => XS.iload X148.her hx rfl (hb hby at_133) rfl k) ?_
            refine own_st (f' := (mkF m 136 #[.val (.int p0), .val (.int p1), .val (.int p2), .val (.long q3), .second, .val (.long q4), .second, .val (.int (own_t0_3 p0 p1 p2 q3 q4)), .val (.int (own_t0_16 p0 p1 p2 q3 q4)), .val (.ref bm113), .val (.ref bm114), .val (.ref b115), .val (.ref b143), .unset, .unset, .unset] [(.int (2 : Int32)), (.int (own_t0_16 p0 p1 p2 q3 q4))])) (fun t k => XS.iconst X148.her hx rfl (hb hby at_135) k) ?_
            by_cases hc149 : (2 : Int32) < (own_t0_16 p0 p1 p2 q3 q4)
            · refine own_st (f' := (mkF m 139 #[.val (.int p0), .val (.int p1), .val (.int p2), .val (.long q3), .second, .val (.long q4), .second, .val (.int (own_t0_3 p0 p1 p2 q3 q4)), .val (.int (own_t0_16 p0 p1 p2 q3 q4)), .val (.ref bm113), .val (.ref bm114), .val (.ref b115), .val (.ref b143), .unset, .unset, .unset] [])) (fun t k => XS.icmpNo X148.her hx rfl (hb hby at_136) rfl (tlt hc149).2.2.2 k) ?_
              refine own_st (f' := (mkF m 141 #[.val (.int p0), .val (.int p1), .val (.int p2), .val (.long q3), .second, .val (.long q4), .second, .val (.int (own_t0_3 p0 p1 p2 q3 q4)), .val (.int (own_t0_16 p0 p1 p2 q3 q4)), .val (.ref bm113), .val (.ref bm114), .val (.ref b115), .val (.ref b143), .unset, .unset, .unset] [(.ref b143)])) (fun t k => XS.aload X148.her hx rfl (hb hby at_139) rfl rfl k) ?_
              refine own_st (f' := (mkF m 143 #[.val (.int p0), .val (.int p1), .val (.int p2), .val (.long q3), .second, .val (.long q4), .second, .val (.int (own_t0_3 p0 p1 p2 q3 q4)), .val (.int (own_t0_16 p0 p1 p2 q3 q4)), .val (.ref bm113), .val (.ref bm114), .val (.ref b115), .val (.ref b143), .unset, .unset, .unset] [(.ref bm114), (.ref b143)])) (fun t k => XS.aload X148.her hx rfl (hb hby at_141) rfl rfl k) ?_
              refine own_callV (y := (⟨"java/util/ArrayList", "add", "(Ljava/lang/Object;)Z"⟩ : MethodName)) (W := 0) [(.ref bm114)] X148 hx hZ hown (own_w47 hw) (own_w48 hw) (own_w50 hw) (own_w49 hw) (own_w25 hw) (own_w51 hw) (by decide) Ea148 (own_add2 l Z a0 hw h148 n0 Zn148 b143 bm114 bg146 bm114 bm113 Ea148 Fs148 Fe148 Fm148 A148_bm114 Bg148 ga_b143 ga_bg146 ne_b143_bg146) (allS (Or.inr q143) (allS (Or.inr qa_bg146) all0)) (by decide) (by decide) (by decide) (by decide) (by rw [hml]; rfl) own_pd5 rfl rfl (Nat.le_of_eq rfl) (hb hby at_143) ?_
              rintro v150 T150 h150 X150 K150 ⟨rfl, Ea150, Fs150, Fe150, Fm150, Bg150⟩
              have B150_vd := B148_vd.keep K150 (ninS ne_vd_b143 (ninS ne_vd_bg146 nin0))
              have B150_bg118 := B148_bg118.keep K150 (ninS ne_bg118_b143 (ninS ne_bg118_bg146 nin0))
              have F150_bm113_cents := F148_bm113_cents.keep K150 (ninS ne_bm113_b143 (ninS ne_bm113_bg146 nin0))
              have F150_bm114_cents := F148_bm114_cents.keep K150 (ninS ne_bm114_b143 (ninS ne_bm114_bg146 nin0))
              have F150_b115_modCount := F148_b115_modCount.keep K150 (ninS ne_b115_b143 (ninS ne_b115_bg146 nin0))
              have F150_b115_elementData := F148_b115_elementData.keep K150 (ninS ne_b115_b143 (ninS ne_b115_bg146 nin0))
              have F150_b115_size := F148_b115_size.keep K150 (ninS ne_b115_b143 (ninS ne_b115_bg146 nin0))
              have A150_bm113 := A148_bm113.keep K150
              have A150_bm114 := A148_bm114.keep K150
              have A150_b115 := A148_b115.keep K150
              have A150_b143 := Ea148.keep K150
              have Zn150 : n0 ≤ h150.size := Nat.le_trans Zn148 K150.1
              have Sk150 := own_Sta_keep Sk148 K150 (allS (own_exa_ns Ea148) (allS (own_ra_ns Bg148) all0))
              show own_G p e below _ T150 (mkF m 146 #[.val (.int p0), .val (.int p1), .val (.int p2), .val (.long q3), .second, .val (.long q4), .second, .val (.int (own_t0_3 p0 p1 p2 q3 q4)), .val (.int (own_t0_16 p0 p1 p2 q3 q4)), .val (.ref bm113), .val (.ref bm114), .val (.ref b115), .val (.ref b143), .unset, .unset, .unset] [(.int (1 : Int32))])
              refine own_st (f' := (mkF m 147 #[.val (.int p0), .val (.int p1), .val (.int p2), .val (.long q3), .second, .val (.long q4), .second, .val (.int (own_t0_3 p0 p1 p2 q3 q4)), .val (.int (own_t0_16 p0 p1 p2 q3 q4)), .val (.ref bm113), .val (.ref bm114), .val (.ref b115), .val (.ref b143), .unset, .unset, .unset] [])) (fun t k => XS.pop X150.her hx rfl (hb hby at_146) rfl rfl k) ?_
              refine own_newO X150 hx hZ hown (own_w75 hw) (own_w76 hw) (own_w77 hw) (hb hby at_147) (by decide) (by decide) ?_
              intro T151 h151 b151 g151 q151 X151 E151 A151 D151
              have lt_vd_b151 : vd < b151 := Nat.lt_of_lt_of_le B150_vd.lt (Nat.le_of_eq g151.symm)
              have ne_vd_b151 : vd ≠ b151 := Nat.ne_of_lt (Nat.lt_of_lt_of_le B150_vd.lt (Nat.le_of_eq g151.symm))
              have B151_vd := B150_vd.ext E151
              have lt_bg118_b151 : bg118 < b151 := Nat.lt_of_lt_of_le B150_bg118.lt (Nat.le_of_eq g151.symm)
              have ne_bg118_b151 : bg118 ≠ b151 := Nat.ne_of_lt (Nat.lt_of_lt_of_le B150_bg118.lt (Nat.le_of_eq g151.symm))
              have B151_bg118 := B150_bg118.ext E151
              have lt_bg146_b151 : bg146 < b151 := Nat.lt_of_lt_of_le Bg150.lt (Nat.le_of_eq g151.symm)
              have ne_bg146_b151 : bg146 ≠ b151 := Nat.ne_of_lt (Nat.lt_of_lt_of_le Bg150.lt (Nat.le_of_eq g151.symm))
              have B151_bg146 := Bg150.ext E151
              have lt_bm113_b151 : bm113 < b151 := Nat.lt_of_lt_of_le A150_bm113.lt (Nat.le_of_eq g151.symm)
              have ne_bm113_b151 : bm113 ≠ b151 := Nat.ne_of_lt (Nat.lt_of_lt_of_le A150_bm113.lt (Nat.le_of_eq g151.symm))
              have A151_bm113 := A150_bm113.ext E151
              have lt_bm114_b151 : bm114 < b151 := Nat.lt_of_lt_of_le A150_bm114.lt (Nat.le_of_eq g151.symm)
              have ne_bm114_b151 : bm114 ≠ b151 := Nat.ne_of_lt (Nat.lt_of_lt_of_le A150_bm114.lt (Nat.le_of_eq g151.symm))
              have A151_bm114 := A150_bm114.ext E151
              have lt_b115_b151 : b115 < b151 := Nat.lt_of_lt_of_le A150_b115.lt (Nat.le_of_eq g151.symm)
              have ne_b115_b151 : b115 ≠ b151 := Nat.ne_of_lt (Nat.lt_of_lt_of_le A150_b115.lt (Nat.le_of_eq g151.symm))
              have A151_b115 := A150_b115.ext E151
              have lt_b143_b151 : b143 < b151 := Nat.lt_of_lt_of_le Ea150.lt (Nat.le_of_eq g151.symm)
              have ne_b143_b151 : b143 ≠ b151 := Nat.ne_of_lt (Nat.lt_of_lt_of_le Ea150.lt (Nat.le_of_eq g151.symm))
              have A151_b143 := Ea150.ext E151
              have F151_bm113_cents := F150_bm113_cents.ext E151
              have F151_bm114_cents := F150_bm114_cents.ext E151
              have F151_b115_modCount := F150_b115_modCount.ext E151
              have F151_b115_elementData := F150_b115_elementData.ext E151
              have F151_b115_size := F150_b115_size.ext E151
              have F151_b143_modCount := Fm150.ext E151
              have F151_b143_elementData := Fe150.ext E151
              have F151_b143_size := Fs150.ext E151
              have S151_DEFAULTCAPACITY_EMPTY_ELEMENTDATA := Sk150.ext E151
              have ga_b151 : n0 ≤ b151 := Nat.le_trans Z0 q151
              have Zn151 : n0 ≤ h151.size := Nat.le_trans Zn150 E151.1
              have F151_held : Fld Z h151 b151 "com/example/bidwright/bidwright/allocation/Supply" "held" "I" (.int (0 : Int32)) := D151 (Or.inr (own_w83 hw)) (ty := .int) (by decide)
              have F151_costs : Fld Z h151 b151 "com/example/bidwright/bidwright/allocation/Supply" "costs" "[J" .null := D151 (Or.inr (own_w129 hw)) (ty := (.array .long)) (by decide)
              have F151_revenues : Fld Z h151 b151 "com/example/bidwright/bidwright/allocation/Supply" "revenues" "[J" .null := D151 (Or.inr (own_w131 hw)) (ty := (.array .long)) (by decide)
              refine own_st (f' := (mkF m 151 #[.val (.int p0), .val (.int p1), .val (.int p2), .val (.long q3), .second, .val (.long q4), .second, .val (.int (own_t0_3 p0 p1 p2 q3 q4)), .val (.int (own_t0_16 p0 p1 p2 q3 q4)), .val (.ref bm113), .val (.ref bm114), .val (.ref b115), .val (.ref b143), .unset, .unset, .unset] [(.ref b151), (.ref b151)])) (fun t k => XS.dup X151.her hx rfl (hb hby at_150) rfl rfl k) ?_
              refine own_st (f' := (mkF m 152 #[.val (.int p0), .val (.int p1), .val (.int p2), .val (.long q3), .second, .val (.long q4), .second, .val (.int (own_t0_3 p0 p1 p2 q3 q4)), .val (.int (own_t0_16 p0 p1 p2 q3 q4)), .val (.ref bm113), .val (.ref bm114), .val (.ref b115), .val (.ref b143), .unset, .unset, .unset] [(.int p0), (.ref b151), (.ref b151)])) (fun t k => XS.iloadN X151.her hx rfl (hb hby at_151) rfl k) ?_
              refine own_st (f' := (mkF m 154 #[.val (.int p0), .val (.int p1), .val (.int p2), .val (.long q3), .second, .val (.long q4), .second, .val (.int (own_t0_3 p0 p1 p2 q3 q4)), .val (.int (own_t0_16 p0 p1 p2 q3 q4)), .val (.ref bm113), .val (.ref bm114), .val (.ref b115), .val (.ref b143), .unset, .unset, .unset] [(.ref b115), (.int p0), (.ref b151), (.ref b151)])) (fun t k => XS.aload X151.her hx rfl (hb hby at_152) rfl rfl k) ?_
              refine own_st (f' := (mkF m 156 #[.val (.int p0), .val (.int p1), .val (.int p2), .val (.long q3), .second, .val (.long q4), .second, .val (.int (own_t0_3 p0 p1 p2 q3 q4)), .val (.int (own_t0_16 p0 p1 p2 q3 q4)), .val (.ref bm113), .val (.ref bm114), .val (.ref b115), .val (.ref b143), .unset, .unset, .unset] [(.ref b143), (.ref b115), (.int p0), (.ref b151), (.ref b151)])) (fun t k => XS.aload X151.her hx rfl (hb hby at_154) rfl rfl k) ?_
              have LS152_2 : own_LS Z h151 b151 b115 [(bm113, (own_t0_27 p0 p1 p2 q3 q4)), (bm114, (own_t0_42 p0 p1 p2 q3 q4))] := ⟨lt_b115_b151, A151_b115, F151_b115_size, (Or.inr ⟨bg118, lt_bg118_b151, F151_b115_elementData, B151_bg118⟩), (own_qS ⟨lt_bm113_b151, A151_bm113, F151_bm113_cents, own_am27 p0 p1 p2 q3 q4⟩ (own_qS ⟨lt_bm114_b151, A151_bm114, F151_bm114_cents, own_am42 p0 p1 p2 q3 q4⟩ own_q0))⟩
              have LS152_3 : own_LS Z h151 b151 b143 [(bm114, (own_t0_42 p0 p1 p2 q3 q4)), (bm113, (own_t0_27 p0 p1 p2 q3 q4)), (bm114, (own_t0_42 p0 p1 p2 q3 q4))] := ⟨lt_b143_b151, A151_b143, F151_b143_size, (Or.inr ⟨bg146, lt_bg146_b151, F151_b143_elementData, B151_bg146⟩), (own_qS ⟨lt_bm114_b151, A151_bm114, F151_bm114_cents, own_am42 p0 p1 p2 q3 q4⟩ (own_qS ⟨lt_bm113_b151, A151_bm113, F151_bm113_cents, own_am27 p0 p1 p2 q3 q4⟩ (own_qS ⟨lt_bm114_b151, A151_bm114, F151_bm114_cents, own_am42 p0 p1 p2 q3 q4⟩ own_q0)))⟩
              refine own_callC (y := (⟨"com/example/bidwright/bidwright/allocation/Supply", "<init>", "(ILjava/util/List;Ljava/util/List;)V"⟩ : MethodName)) (W := 1) [(.int p0), (.ref b115), (.ref b143)] X151 hx hZ hown rfl (own_w78 hw) (own_w79 hw) (own_w77 hw) (own_w80 hw) (by decide) (own_c13 l Z a0 hw h151 n0 Zn151 b151 p0 b115 b143 b151 _ _ A151 F151_held F151_costs F151_revenues ga_b151 (Nat.le_refl _) LS152_2 LS152_3 (by show 2 ≤ 3; decide) (by show 3 ≤ 3; decide)) (allS (Or.inr q151) all0) (by decide) (by decide) (by decide) (by decide) (by rw [hml]; rfl) own_pd14 rfl rfl (Nat.le_of_eq rfl) (hb hby at_156) ?_
              rintro v152 T152 h152 X152 K152 ⟨rfl, Ax152, Fh152, bt152, La152, Fc152, Bt152, hl152⟩
              have B152_vd := B151_vd.keep K152 (ninS ne_vd_b151 nin0)
              have B152_bg118 := B151_bg118.keep K152 (ninS ne_bg118_b151 nin0)
              have B152_bg146 := B151_bg146.keep K152 (ninS ne_bg146_b151 nin0)
              have F152_bm113_cents := F151_bm113_cents.keep K152 (ninS ne_bm113_b151 nin0)
              have F152_bm114_cents := F151_bm114_cents.keep K152 (ninS ne_bm114_b151 nin0)
              have F152_b115_modCount := F151_b115_modCount.keep K152 (ninS ne_b115_b151 nin0)
              have F152_b115_elementData := F151_b115_elementData.keep K152 (ninS ne_b115_b151 nin0)
              have F152_b115_size := F151_b115_size.keep K152 (ninS ne_b115_b151 nin0)
              have F152_b143_modCount := F151_b143_modCount.keep K152 (ninS ne_b143_b151 nin0)
              have F152_b143_elementData := F151_b143_elementData.keep K152 (ninS ne_b143_b151 nin0)
              have F152_b143_size := F151_b143_size.keep K152 (ninS ne_b143_b151 nin0)
              have A152_bm113 := A151_bm113.keep K152
              have A152_bm114 := A151_bm114.keep K152
              have A152_b115 := A151_b115.keep K152
              have A152_b143 := A151_b143.keep K152
              have A152_b151 := A151.keep K152
              have Zn152 : n0 ≤ h152.size := Nat.le_trans Zn151 K152.1
              show own_G p e below _ T152 (mkF m 159 #[.val (.int p0), .val (.int p1), .val (.int p2), .val (.long q3), .second, .val (.long q4), .second, .val (.int (own_t0_3 p0 p1 p2 q3 q4)), .val (.int (own_t0_16 p0 p1 p2 q3 q4)), .val (.ref bm113), .val (.ref bm114), .val (.ref b115), .val (.ref b143), .unset, .unset, .unset] [(.ref b151)])
              refine own_st (f' := (mkF m 161 #[.val (.int p0), .val (.int p1), .val (.int p2), .val (.long q3), .second, .val (.long q4), .second, .val (.int (own_t0_3 p0 p1 p2 q3 q4)), .val (.int (own_t0_16 p0 p1 p2 q3 q4)), .val (.ref bm113), .val (.ref bm114), .val (.ref b115), .val (.ref b143), .val (.ref b151), .unset, .unset] [])) (fun t k => XS.astore X152.her hx rfl (hb hby at_159) rfl rfl (l' := #[.val (.int p0), .val (.int p1), .val (.int p2), .val (.long q3), .second, .val (.long q4), .second, .val (.int (own_t0_3 p0 p1 p2 q3 q4)), .val (.int (own_t0_16 p0 p1 p2 q3 q4)), .val (.ref bm113), .val (.ref bm114), .val (.ref b115), .val (.ref b143), .val (.ref b151), .unset, .unset]) rfl k) ?_
              refine own_st (f' := (mkF m 162 #[.val (.int p0), .val (.int p1), .val (.int p2), .val (.long q3), .second, .val (.long q4), .second, .val (.int (own_t0_3 p0 p1 p2 q3 q4)), .val (.int (own_t0_16 p0 p1 p2 q3 q4)), .val (.ref bm113), .val (.ref bm114), .val (.ref b115), .val (.ref b143), .val (.ref b151), .unset, .unset] [(.int p0)])) (fun t k => XS.iloadN X152.her hx rfl (hb hby at_161) rfl k) ?_
              refine own_st (f' := (mkF m 163 #[.val (.int p0), .val (.int p1), .val (.int p2), .val (.long q3), .second, .val (.long q4), .second, .val (.int (own_t0_3 p0 p1 p2 q3 q4)), .val (.int (own_t0_16 p0 p1 p2 q3 q4)), .val (.ref bm113), .val (.ref bm114), .val (.ref b115), .val (.ref b143), .val (.ref b151), .unset, .unset] [(.long (p0.toInt64))])) (fun t k => XS.i2l X152.her hx rfl (hb hby at_162) rfl k) ?_
              refine own_st (f' := (mkF m 165 #[.val (.int p0), .val (.int p1), .val (.int p2), .val (.long q3), .second, .val (.long q4), .second, .val (.int (own_t0_3 p0 p1 p2 q3 q4)), .val (.int (own_t0_16 p0 p1 p2 q3 q4)), .val (.ref bm113), .val (.ref bm114), .val (.ref b115), .val (.ref b143), .val (.ref b151), .unset, .unset] [(.int (own_t0_3 p0 p1 p2 q3 q4)), (.long (p0.toInt64))])) (fun t k => XS.iload X152.her hx rfl (hb hby at_163) rfl k) ?_
              refine own_st (f' := (mkF m 166 #[.val (.int p0), .val (.int p1), .val (.int p2), .val (.long q3), .second, .val (.long q4), .second, .val (.int (own_t0_3 p0 p1 p2 q3 q4)), .val (.int (own_t0_16 p0 p1 p2 q3 q4)), .val (.ref bm113), .val (.ref bm114), .val (.ref b115), .val (.ref b143), .val (.ref b151), .unset, .unset] [(.long ((own_t0_3 p0 p1 p2 q3 q4).toInt64)), (.long (p0.toInt64))])) (fun t k => XS.i2l X152.her hx rfl (hb hby at_165) rfl k) ?_
              refine own_st (f' := (mkF m 167 #[.val (.int p0), .val (.int p1), .val (.int p2), .val (.long q3), .second, .val (.long q4), .second, .val (.int (own_t0_3 p0 p1 p2 q3 q4)), .val (.int (own_t0_16 p0 p1 p2 q3 q4)), .val (.ref bm113), .val (.ref bm114), .val (.ref b115), .val (.ref b143), .val (.ref b151), .unset, .unset] [(.long ((p0.toInt64) + ((own_t0_3 p0 p1 p2 q3 q4).toInt64)))])) (fun t k => XS.ladd X152.her hx rfl (hb hby at_166) rfl k) ?_
              refine own_st (f' := (mkF m 169 #[.val (.int p0), .val (.int p1), .val (.int p2), .val (.long q3), .second, .val (.long q4), .second, .val (.int (own_t0_3 p0 p1 p2 q3 q4)), .val (.int (own_t0_16 p0 p1 p2 q3 q4)), .val (.ref bm113), .val (.ref bm114), .val (.ref b115), .val (.ref b143), .val (.ref b151), .val (.long (own_t0_167 p0 p1 p2 q3 q4)), .second] [])) (fun t k => XS.lstore X152.her hx rfl (hb hby at_167) rfl (l' := #[.val (.int p0), .val (.int p1), .val (.int p2), .val (.long q3), .second, .val (.long q4), .second, .val (.int (own_t0_3 p0 p1 p2 q3 q4)), .val (.int (own_t0_16 p0 p1 p2 q3 q4)), .val (.ref bm113), .val (.ref bm114), .val (.ref b115), .val (.ref b143), .val (.ref b151), .val (.long (own_t0_167 p0 p1 p2 q3 q4)), .second]) rfl k) ?_
              refine own_st (f' := (mkF m 171 #[.val (.int p0), .val (.int p1), .val (.int p2), .val (.long q3), .second, .val (.long q4), .second, .val (.int (own_t0_3 p0 p1 p2 q3 q4)), .val (.int (own_t0_16 p0 p1 p2 q3 q4)), .val (.ref bm113), .val (.ref bm114), .val (.ref b115), .val (.ref b143), .val (.ref b151), .val (.long (own_t0_167 p0 p1 p2 q3 q4)), .second] [(.ref b151)])) (fun t k => XS.aload X152.her hx rfl (hb hby at_169) rfl rfl k) ?_
              refine own_callVP (y := (⟨"com/example/bidwright/bidwright/allocation/Supply", "most", "()J"⟩ : MethodName)) (W := 0) [] X152 hx hZ hown (own_w132 hw) (own_w133 hw) (own_w135 hw) (own_w134 hw) (own_w77 hw) (own_w136 hw) (by decide) Ax152 (own_c22 l Z a0 hw h152 n0 Zn152 b151 p0 (3 : Int32) bt152 _ Fh152 Fc152 Bt152 (by rw [hl152]; rfl)) (by decide) (by decide) (by decide) (by decide) (by rw [hml]; rfl) own_pd11 rfl rfl (Nat.le_of_eq rfl) (hb hby at_171) ?_
              intro T153 X153
              show own_G p e below _ T153 (mkF m 174 #[.val (.int p0), .val (.int p1), .val (.int p2), .val (.long q3), .second, .val (.long q4), .second, .val (.int (own_t0_3 p0 p1 p2 q3 q4)), .val (.int (own_t0_16 p0 p1 p2 q3 q4)), .val (.ref bm113), .val (.ref bm114), .val (.ref b115), .val (.ref b143), .val (.ref b151), .val (.long (own_t0_167 p0 p1 p2 q3 q4)), .second] [(.long ((p0.toInt64 + (3 : Int32).toInt64) - 1))])
              refine own_st (f' := (mkF m 176 #[.val (.int p0), .val (.int p1), .val (.int p2), .val (.long q3), .second, .val (.long q4), .second, .val (.int (own_t0_3 p0 p1 p2 q3 q4)), .val (.int (own_t0_16 p0 p1 p2 q3 q4)), .val (.ref bm113), .val (.ref bm114), .val (.ref b115), .val (.ref b143), .val (.ref b151), .val (.long (own_t0_167 p0 p1 p2 q3 q4)), .second] [(.long (own_t0_167 p0 p1 p2 q3 q4)), (.long ((p0.toInt64 + (3 : Int32).toInt64) - 1))])) (fun t k => XS.lload X153.her hx rfl (hb hby at_174) rfl k) ?_
              refine own_st (f' := (mkF m 177 #[.val (.int p0), .val (.int p1), .val (.int p2), .val (.long q3), .second, .val (.long q4), .second, .val (.int (own_t0_3 p0 p1 p2 q3 q4)), .val (.int (own_t0_16 p0 p1 p2 q3 q4)), .val (.ref bm113), .val (.ref bm114), .val (.ref b115), .val (.ref b143), .val (.ref b151), .val (.long (own_t0_167 p0 p1 p2 q3 q4)), .second] [(.int (lcmpW ((p0.toInt64 + (3 : Int32).toInt64) - 1) (own_t0_167 p0 p1 p2 q3 q4)))])) (fun t k => XS.lcmp X153.her hx rfl (hb hby at_176) rfl k) ?_
              refine own_st (f' := (mkF m 180 #[.val (.int p0), .val (.int p1), .val (.int p2), .val (.long q3), .second, .val (.long q4), .second, .val (.int (own_t0_3 p0 p1 p2 q3 q4)), .val (.int (own_t0_16 p0 p1 p2 q3 q4)), .val (.ref bm113), .val (.ref bm114), .val (.ref b115), .val (.ref b143), .val (.ref b151), .val (.long (own_t0_167 p0 p1 p2 q3 q4)), .second] [])) (fun t k => XS.ifNo X153.her hx rfl (hb hby at_177) rfl ((if0 _ _).trans (teq ((lw_eq _ _).mpr (own_fin _ _ _ (by rw [own_nb2 p0 p1 p2 q3 q4 hc119 hc121]; decide)) : (lcmpW ((p0.toInt64 + (3 : Int32).toInt64) - 1) (own_t0_167 p0 p1 p2 q3 q4)) = (0 : Int32))).2) k) ?_
              refine own_st (f' := (mkF m 181 #[.val (.int p0), .val (.int p1), .val (.int p2), .val (.long q3), .second, .val (.long q4), .second, .val (.int (own_t0_3 p0 p1 p2 q3 q4)), .val (.int (own_t0_16 p0 p1 p2 q3 q4)), .val (.ref bm113), .val (.ref bm114), .val (.ref b115), .val (.ref b143), .val (.ref b151), .val (.long (own_t0_167 p0 p1 p2 q3 q4)), .second] [(.int (1 : Int32))])) (fun t k => XS.iconst X153.her hx rfl (hb hby at_180) k) ?_
              refine own_st (f' := (mkF m 185 #[.val (.int p0), .val (.int p1), .val (.int p2), .val (.long q3), .second, .val (.long q4), .second, .val (.int (own_t0_3 p0 p1 p2 q3 q4)), .val (.int (own_t0_16 p0 p1 p2 q3 q4)), .val (.ref bm113), .val (.ref bm114), .val (.ref b115), .val (.ref b143), .val (.ref b151), .val (.long (own_t0_167 p0 p1 p2 q3 q4)), .second] [(.int (1 : Int32))])) (fun t k => XS.goto X153.her hx rfl (pc0 := 181) (pc' := 185) rfl (hb hby at_181) (by decide) (by decide) k) ?_
              refine own_retN (t := .boolean) X153 hx hret hlk (by simp) (hb hby at_185) (by first | decide | omega) (by first | decide | omega) ?_
              exact congrArg (fun q => some (Value.int q)) (by decide)
            · refine own_st (f' := (mkF m 147 #[.val (.int p0), .val (.int p1), .val (.int p2), .val (.long q3), .second, .val (.long q4), .second, .val (.int (own_t0_3 p0 p1 p2 q3 q4)), .val (.int (own_t0_16 p0 p1 p2 q3 q4)), .val (.ref bm113), .val (.ref bm114), .val (.ref b115), .val (.ref b143), .unset, .unset, .unset] [])) (fun t k => XS.icmpYes X148.her hx rfl (pc0 := 136) (pc' := 147) rfl (hb hby at_136) rfl (flt hc149).2.2.2 (by decide) (by decide) k) ?_
              refine own_newO X148 hx hZ hown (own_w75 hw) (own_w76 hw) (own_w77 hw) (hb hby at_147) (by decide) (by decide) ?_
              intro T154 h154 b154 g154 q154 X154 E154 A154 D154
              have lt_vd_b154 : vd < b154 := Nat.lt_of_lt_of_le B148_vd.lt (Nat.le_of_eq g154.symm)
              have ne_vd_b154 : vd ≠ b154 := Nat.ne_of_lt (Nat.lt_of_lt_of_le B148_vd.lt (Nat.le_of_eq g154.symm))
              have B154_vd := B148_vd.ext E154
              have lt_bg118_b154 : bg118 < b154 := Nat.lt_of_lt_of_le B148_bg118.lt (Nat.le_of_eq g154.symm)
              have ne_bg118_b154 : bg118 ≠ b154 := Nat.ne_of_lt (Nat.lt_of_lt_of_le B148_bg118.lt (Nat.le_of_eq g154.symm))
              have B154_bg118 := B148_bg118.ext E154
              have lt_bg146_b154 : bg146 < b154 := Nat.lt_of_lt_of_le Bg148.lt (Nat.le_of_eq g154.symm)
              have ne_bg146_b154 : bg146 ≠ b154 := Nat.ne_of_lt (Nat.lt_of_lt_of_le Bg148.lt (Nat.le_of_eq g154.symm))
              have B154_bg146 := Bg148.ext E154
              have lt_bm113_b154 : bm113 < b154 := Nat.lt_of_lt_of_le A148_bm113.lt (Nat.le_of_eq g154.symm)
              have ne_bm113_b154 : bm113 ≠ b154 := Nat.ne_of_lt (Nat.lt_of_lt_of_le A148_bm113.lt (Nat.le_of_eq g154.symm))
              have A154_bm113 := A148_bm113.ext E154
              have lt_bm114_b154 : bm114 < b154 := Nat.lt_of_lt_of_le A148_bm114.lt (Nat.le_of_eq g154.symm)
              have ne_bm114_b154 : bm114 ≠ b154 := Nat.ne_of_lt (Nat.lt_of_lt_of_le A148_bm114.lt (Nat.le_of_eq g154.symm))
              have A154_bm114 := A148_bm114.ext E154
              have lt_b115_b154 : b115 < b154 := Nat.lt_of_lt_of_le A148_b115.lt (Nat.le_of_eq g154.symm)
              have ne_b115_b154 : b115 ≠ b154 := Nat.ne_of_lt (Nat.lt_of_lt_of_le A148_b115.lt (Nat.le_of_eq g154.symm))
              have A154_b115 := A148_b115.ext E154
              have lt_b143_b154 : b143 < b154 := Nat.lt_of_lt_of_le Ea148.lt (Nat.le_of_eq g154.symm)
              have ne_b143_b154 : b143 ≠ b154 := Nat.ne_of_lt (Nat.lt_of_lt_of_le Ea148.lt (Nat.le_of_eq g154.symm))
              have A154_b143 := Ea148.ext E154
              have F154_bm113_cents := F148_bm113_cents.ext E154
              have F154_bm114_cents := F148_bm114_cents.ext E154
              have F154_b115_modCount := F148_b115_modCount.ext E154
              have F154_b115_elementData := F148_b115_elementData.ext E154
              have F154_b115_size := F148_b115_size.ext E154
              have F154_b143_modCount := Fm148.ext E154
              have F154_b143_elementData := Fe148.ext E154
              have F154_b143_size := Fs148.ext E154
              have S154_DEFAULTCAPACITY_EMPTY_ELEMENTDATA := Sk148.ext E154
              have ga_b154 : n0 ≤ b154 := Nat.le_trans Z0 q154
              have Zn154 : n0 ≤ h154.size := Nat.le_trans Zn148 E154.1
              have F154_held : Fld Z h154 b154 "com/example/bidwright/bidwright/allocation/Supply" "held" "I" (.int (0 : Int32)) := D154 (Or.inr (own_w83 hw)) (ty := .int) (by decide)
              have F154_costs : Fld Z h154 b154 "com/example/bidwright/bidwright/allocation/Supply" "costs" "[J" .null := D154 (Or.inr (own_w129 hw)) (ty := (.array .long)) (by decide)
              have F154_revenues : Fld Z h154 b154 "com/example/bidwright/bidwright/allocation/Supply" "revenues" "[J" .null := D154 (Or.inr (own_w131 hw)) (ty := (.array .long)) (by decide)
              refine own_st (f' := (mkF m 151 #[.val (.int p0), .val (.int p1), .val (.int p2), .val (.long q3), .second, .val (.long q4), .second, .val (.int (own_t0_3 p0 p1 p2 q3 q4)), .val (.int (own_t0_16 p0 p1 p2 q3 q4)), .val (.ref bm113), .val (.ref bm114), .val (.ref b115), .val (.ref b143), .unset, .unset, .unset] [(.ref b154), (.ref b154)])) (fun t k => XS.dup X154.her hx rfl (hb hby at_150) rfl rfl k) ?_
              refine own_st (f' := (mkF m 152 #[.val (.int p0), .val (.int p1), .val (.int p2), .val (.long q3), .second, .val (.long q4), .second, .val (.int (own_t0_3 p0 p1 p2 q3 q4)), .val (.int (own_t0_16 p0 p1 p2 q3 q4)), .val (.ref bm113), .val (.ref bm114), .val (.ref b115), .val (.ref b143), .unset, .unset, .unset] [(.int p0), (.ref b154), (.ref b154)])) (fun t k => XS.iloadN X154.her hx rfl (hb hby at_151) rfl k) ?_
              refine own_st (f' := (mkF m 154 #[.val (.int p0), .val (.int p1), .val (.int p2), .val (.long q3), .second, .val (.long q4), .second, .val (.int (own_t0_3 p0 p1 p2 q3 q4)), .val (.int (own_t0_16 p0 p1 p2 q3 q4)), .val (.ref bm113), .val (.ref bm114), .val (.ref b115), .val (.ref b143), .unset, .unset, .unset] [(.ref b115), (.int p0), (.ref b154), (.ref b154)])) (fun t k => XS.aload X154.her hx rfl (hb hby at_152) rfl rfl k) ?_
              refine own_st (f' := (mkF m 156 #[.val (.int p0), .val (.int p1), .val (.int p2), .val (.long q3), .second, .val (.long q4), .second, .val (.int (own_t0_3 p0 p1 p2 q3 q4)), .val (.int (own_t0_16 p0 p1 p2 q3 q4)), .val (.ref bm113), .val (.ref bm114), .val (.ref b115), .val (.ref b143), .unset, .unset, .unset] [(.ref b143), (.ref b115), (.int p0), (.ref b154), (.ref b154)])) (fun t k => XS.aload X154.her hx rfl (hb hby at_154) rfl rfl k) ?_
              have LS155_2 : own_LS Z h154 b154 b115 [(bm113, (own_t0_27 p0 p1 p2 q3 q4)), (bm114, (own_t0_42 p0 p1 p2 q3 q4))] := ⟨lt_b115_b154, A154_b115, F154_b115_size, (Or.inr ⟨bg118, lt_bg118_b154, F154_b115_elementData, B154_bg118⟩), (own_qS ⟨lt_bm113_b154, A154_bm113, F154_bm113_cents, own_am27 p0 p1 p2 q3 q4⟩ (own_qS ⟨lt_bm114_b154, A154_bm114, F154_bm114_cents, own_am42 p0 p1 p2 q3 q4⟩ own_q0))⟩
              have LS155_3 : own_LS Z h154 b154 b143 [(bm114, (own_t0_42 p0 p1 p2 q3 q4)), (bm113, (own_t0_27 p0 p1 p2 q3 q4))] := ⟨lt_b143_b154, A154_b143, F154_b143_size, (Or.inr ⟨bg146, lt_bg146_b154, F154_b143_elementData, B154_bg146⟩), (own_qS ⟨lt_bm114_b154, A154_bm114, F154_bm114_cents, own_am42 p0 p1 p2 q3 q4⟩ (own_qS ⟨lt_bm113_b154, A154_bm113, F154_bm113_cents, own_am27 p0 p1 p2 q3 q4⟩ own_q0))⟩
              refine own_callC (y := (⟨"com/example/bidwright/bidwright/allocation/Supply", "<init>", "(ILjava/util/List;Ljava/util/List;)V"⟩ : MethodName)) (W := 1) [(.int p0), (.ref b115), (.ref b143)] X154 hx hZ hown rfl (own_w78 hw) (own_w79 hw) (own_w77 hw) (own_w80 hw) (by decide) (own_c13 l Z a0 hw h154 n0 Zn154 b154 p0 b115 b143 b154 _ _ A154 F154_held F154_costs F154_revenues ga_b154 (Nat.le_refl _) LS155_2 LS155_3 (by show 2 ≤ 3; decide) (by show 2 ≤ 3; decide)) (allS (Or.inr q154) all0) (by decide) (by decide) (by decide) (by decide) (by rw [hml]; rfl) own_pd14 rfl rfl (Nat.le_of_eq rfl) (hb hby at_156) ?_
              rintro v155 T155 h155 X155 K155 ⟨rfl, Ax155, Fh155, bt155, La155, Fc155, Bt155, hl155⟩
              have B155_vd := B154_vd.keep K155 (ninS ne_vd_b154 nin0)
              have B155_bg118 := B154_bg118.keep K155 (ninS ne_bg118_b154 nin0)
              have B155_bg146 := B154_bg146.keep K155 (ninS ne_bg146_b154 nin0)
              have F155_bm113_cents := F154_bm113_cents.keep K155 (ninS ne_bm113_b154 nin0)
              have F155_bm114_cents := F154_bm114_cents.keep K155 (ninS ne_bm114_b154 nin0)
              have F155_b115_modCount := F154_b115_modCount.keep K155 (ninS ne_b115_b154 nin0)
              have F155_b115_elementData := F154_b115_elementData.keep K155 (ninS ne_b115_b154 nin0)
              have F155_b115_size := F154_b115_size.keep K155 (ninS ne_b115_b154 nin0)
              have F155_b143_modCount := F154_b143_modCount.keep K155 (ninS ne_b143_b154 nin0)
              have F155_b143_elementData := F154_b143_elementData.keep K155 (ninS ne_b143_b154 nin0)
              have F155_b143_size := F154_b143_size.keep K155 (ninS ne_b143_b154 nin0)
              have A155_bm113 := A154_bm113.keep K155
              have A155_bm114 := A154_bm114.keep K155
              have A155_b115 := A154_b115.keep K155
              have A155_b143 := A154_b143.keep K155
              have A155_b154 := A154.keep K155
              have Zn155 : n0 ≤ h155.size := Nat.le_trans Zn154 K155.1
              show own_G p e below _ T155 (mkF m 159 #[.val (.int p0), .val (.int p1), .val (.int p2), .val (.long q3), .second, .val (.long q4), .second, .val (.int (own_t0_3 p0 p1 p2 q3 q4)), .val (.int (own_t0_16 p0 p1 p2 q3 q4)), .val (.ref bm113), .val (.ref bm114), .val (.ref b115), .val (.ref b143), .unset, .unset, .unset] [(.ref b154)])
              refine own_st (f' := (mkF m 161 #[.val (.int p0), .val (.int p1), .val (.int p2), .val (.long q3), .second, .val (.long q4), .second, .val (.int (own_t0_3 p0 p1 p2 q3 q4)), .val (.int (own_t0_16 p0 p1 p2 q3 q4)), .val (.ref bm113), .val (.ref bm114), .val (.ref b115), .val (.ref b143), .val (.ref b154), .unset, .unset] [])) (fun t k => XS.astore X155.her hx rfl (hb hby at_159) rfl rfl (l' := #[.val (.int p0), .val (.int p1), .val (.int p2), .val (.long q3), .second, .val (.long q4), .second, .val (.int (own_t0_3 p0 p1 p2 q3 q4)), .val (.int (own_t0_16 p0 p1 p2 q3 q4)), .val (.ref bm113), .val (.ref bm114), .val (.ref b115), .val (.ref b143), .val (.ref b154), .unset, .unset]) rfl k) ?_
              refine own_st (f' := (mkF m 162 #[.val (.int p0), .val (.int p1), .val (.int p2), .val (.long q3), .second, .val (.long q4), .second, .val (.int (own_t0_3 p0 p1 p2 q3 q4)), .val (.int (own_t0_16 p0 p1 p2 q3 q4)), .val (.ref bm113), .val (.ref bm114), .val (.ref b115), .val (.ref b143), .val (.ref b154), .unset, .unset] [(.int p0)])) (fun t k => XS.iloadN X155.her hx rfl (hb hby at_161) rfl k) ?_
              refine own_st (f' := (mkF m 163 #[.val (.int p0), .val (.int p1), .val (.int p2), .val (.long q3), .second, .val (.long q4), .second, .val (.int (own_t0_3 p0 p1 p2 q3 q4)), .val (.int (own_t0_16 p0 p1 p2 q3 q4)), .val (.ref bm113), .val (.ref bm114), .val (.ref b115), .val (.ref b143), .val (.ref b154), .unset, .unset] [(.long (p0.toInt64))])) (fun t k => XS.i2l X155.her hx rfl (hb hby at_162) rfl k) ?_
              refine own_st (f' := (mkF m 165 #[.val (.int p0), .val (.int p1), .val (.int p2), .val (.long q3), .second, .val (.long q4), .second, .val (.int (own_t0_3 p0 p1 p2 q3 q4)), .val (.int (own_t0_16 p0 p1 p2 q3 q4)), .val (.ref bm113), .val (.ref bm114), .val (.ref b115), .val (.ref b143), .val (.ref b154), .unset, .unset] [(.int (own_t0_3 p0 p1 p2 q3 q4)), (.long (p0.toInt64))])) (fun t k => XS.iload X155.her hx rfl (hb hby at_163) rfl k) ?_
              refine own_st (f' := (mkF m 166 #[.val (.int p0), .val (.int p1), .val (.int p2), .val (.long q3), .second, .val (.long q4), .second, .val (.int (own_t0_3 p0 p1 p2 q3 q4)), .val (.int (own_t0_16 p0 p1 p2 q3 q4)), .val (.ref bm113), .val (.ref bm114), .val (.ref b115), .val (.ref b143), .val (.ref b154), .unset, .unset] [(.long ((own_t0_3 p0 p1 p2 q3 q4).toInt64)), (.long (p0.toInt64))])) (fun t k => XS.i2l X155.her hx rfl (hb hby at_165) rfl k) ?_
              refine own_st (f' := (mkF m 167 #[.val (.int p0), .val (.int p1), .val (.int p2), .val (.long q3), .second, .val (.long q4), .second, .val (.int (own_t0_3 p0 p1 p2 q3 q4)), .val (.int (own_t0_16 p0 p1 p2 q3 q4)), .val (.ref bm113), .val (.ref bm114), .val (.ref b115), .val (.ref b143), .val (.ref b154), .unset, .unset] [(.long ((p0.toInt64) + ((own_t0_3 p0 p1 p2 q3 q4).toInt64)))])) (fun t k => XS.ladd X155.her hx rfl (hb hby at_166) rfl k) ?_
              refine own_st (f' := (mkF m 169 #[.val (.int p0), .val (.int p1), .val (.int p2), .val (.long q3), .second, .val (.long q4), .second, .val (.int (own_t0_3 p0 p1 p2 q3 q4)), .val (.int (own_t0_16 p0 p1 p2 q3 q4)), .val (.ref bm113), .val (.ref bm114), .val (.ref b115), .val (.ref b143), .val (.ref b154), .val (.long (own_t0_167 p0 p1 p2 q3 q4)), .second] [])) (fun t k => XS.lstore X155.her hx rfl (hb hby at_167) rfl (l' := #[.val (.int p0), .val (.int p1), .val (.int p2), .val (.long q3), .second, .val (.long q4), .second, .val (.int (own_t0_3 p0 p1 p2 q3 q4)), .val (.int (own_t0_16 p0 p1 p2 q3 q4)), .val (.ref bm113), .val (.ref bm114), .val (.ref b115), .val (.ref b143), .val (.ref b154), .val (.long (own_t0_167 p0 p1 p2 q3 q4)), .second]) rfl k) ?_
              refine own_st (f' := (mkF m 171 #[.val (.int p0), .val (.int p1), .val (.int p2), .val (.long q3), .second, .val (.long q4), .second, .val (.int (own_t0_3 p0 p1 p2 q3 q4)), .val (.int (own_t0_16 p0 p1 p2 q3 q4)), .val (.ref bm113), .val (.ref bm114), .val (.ref b115), .val (.ref b143), .val (.ref b154), .val (.long (own_t0_167 p0 p1 p2 q3 q4)), .second] [(.ref b154)])) (fun t k => XS.aload X155.her hx rfl (hb hby at_169) rfl rfl k) ?_
              refine own_callVP (y := (⟨"com/example/bidwright/bidwright/allocation/Supply", "most", "()J"⟩ : MethodName)) (W := 0) [] X155 hx hZ hown (own_w132 hw) (own_w133 hw) (own_w135 hw) (own_w134 hw) (own_w77 hw) (own_w136 hw) (by decide) Ax155 (own_c22 l Z a0 hw h155 n0 Zn155 b154 p0 (3 : Int32) bt155 _ Fh155 Fc155 Bt155 (by rw [hl155]; rfl)) (by decide) (by decide) (by decide) (by decide) (by rw [hml]; rfl) own_pd11 rfl rfl (Nat.le_of_eq rfl) (hb hby at_171) ?_
              intro T156 X156
              show own_G p e below _ T156 (mkF m 174 #[.val (.int p0), .val (.int p1), .val (.int p2), .val (.long q3), .second, .val (.long q4), .second, .val (.int (own_t0_3 p0 p1 p2 q3 q4)), .val (.int (own_t0_16 p0 p1 p2 q3 q4)), .val (.ref bm113), .val (.ref bm114), .val (.ref b115), .val (.ref b143), .val (.ref b154), .val (.long (own_t0_167 p0 p1 p2 q3 q4)), .second] [(.long ((p0.toInt64 + (3 : Int32).toInt64) - 1))])
              refine own_st (f' := (mkF m 176 #[.val (.int p0), .val (.int p1), .val (.int p2), .val (.long q3), .second, .val (.long q4), .second, .val (.int (own_t0_3 p0 p1 p2 q3 q4)), .val (.int (own_t0_16 p0 p1 p2 q3 q4)), .val (.ref bm113), .val (.ref bm114), .val (.ref b115), .val (.ref b143), .val (.ref b154), .val (.long (own_t0_167 p0 p1 p2 q3 q4)), .second] [(.long (own_t0_167 p0 p1 p2 q3 q4)), (.long ((p0.toInt64 + (3 : Int32).toInt64) - 1))])) (fun t k => XS.lload X156.her hx rfl (hb hby at_174) rfl k) ?_
              refine own_st (f' := (mkF m 177 #[.val (.int p0), .val (.int p1), .val (.int p2), .val (.long q3), .second, .val (.long q4), .second, .val (.int (own_t0_3 p0 p1 p2 q3 q4)), .val (.int (own_t0_16 p0 p1 p2 q3 q4)), .val (.ref bm113), .val (.ref bm114), .val (.ref b115), .val (.ref b143), .val (.ref b154), .val (.long (own_t0_167 p0 p1 p2 q3 q4)), .second] [(.int (lcmpW ((p0.toInt64 + (3 : Int32).toInt64) - 1) (own_t0_167 p0 p1 p2 q3 q4)))])) (fun t k => XS.lcmp X156.her hx rfl (hb hby at_176) rfl k) ?_
              refine own_st (f' := (mkF m 180 #[.val (.int p0), .val (.int p1), .val (.int p2), .val (.long q3), .second, .val (.long q4), .second, .val (.int (own_t0_3 p0 p1 p2 q3 q4)), .val (.int (own_t0_16 p0 p1 p2 q3 q4)), .val (.ref bm113), .val (.ref bm114), .val (.ref b115), .val (.ref b143), .val (.ref b154), .val (.long (own_t0_167 p0 p1 p2 q3 q4)), .second] [])) (fun t k => XS.ifNo X156.her hx rfl (hb hby at_177) rfl ((if0 _ _).trans (teq ((lw_eq _ _).mpr (own_fin _ _ _ (by rw [own_nb2 p0 p1 p2 q3 q4 hc119 hc121]; decide)) : (lcmpW ((p0.toInt64 + (3 : Int32).toInt64) - 1) (own_t0_167 p0 p1 p2 q3 q4)) = (0 : Int32))).2) k) ?_
              refine own_st (f' := (mkF m 181 #[.val (.int p0), .val (.int p1), .val (.int p2), .val (.long q3), .second, .val (.long q4), .second, .val (.int (own_t0_3 p0 p1 p2 q3 q4)), .val (.int (own_t0_16 p0 p1 p2 q3 q4)), .val (.ref bm113), .val (.ref bm114), .val (.ref b115), .val (.ref b143), .val (.ref b154), .val (.long (own_t0_167 p0 p1 p2 q3 q4)), .second] [(.int (1 : Int32))])) (fun t k => XS.iconst X156.her hx rfl (hb hby at_180) k) ?_
              refine own_st (f' := (mkF m 185 #[.val (.int p0), .val (.int p1), .val (.int p2), .val (.long q3), .second, .val (.long q4), .second, .val (.int (own_t0_3 p0 p1 p2 q3 q4)), .val (.int (own_t0_16 p0 p1 p2 q3 q4)), .val (.ref bm113), .val (.ref bm114), .val (.ref b115), .val (.ref b143), .val (.ref b154), .val (.long (own_t0_167 p0 p1 p2 q3 q4)), .second] [(.int (1 : Int32))])) (fun t k => XS.goto X156.her hx rfl (pc0 := 181) (pc' := 185) rfl (hb hby at_181) (by decide) (by decide) k) ?_
              refine own_retN (t := .boolean) X156 hx hret hlk (by simp) (hb hby at_185) (by first | decide | omega) (by first | decide | omega) ?_
              exact congrArg (fun q => some (Value.int q)) (by decide)
          · refine own_st (f' := (mkF m 133 #[.val (.int p0), .val (.int p1), .val (.int p2), .val (.long q3), .second, .val (.long q4), .second, .val (.int (own_t0_3 p0 p1 p2 q3 q4)), .val (.int (own_t0_16 p0 p1 p2 q3 q4)), .val (.ref bm113), .val (.ref bm114), .val (.ref b115), .val (.ref b143), .unset, .unset, .unset] [])) (fun t k => XS.icmpYes X146.her hx rfl (pc0 := 122) (pc' := 133) rfl (hb hby at_122) rfl (flt hc147).2.2.2 (by decide) (by decide) k) ?_
            refine own_st (f' := (mkF m 135 #[.val (.int p0), .val (.int p1), .val (.int p2), .val (.long q3), .second, .val (.long q4), .second, .val (.int (own_t0_3 p0 p1 p2 q3 q4)), .val (.int (own_t0_16 p0 p1 p2 q3 q4)), .val (.ref bm113), .val (.ref bm114), .val (.ref b115), .val (.ref b143), .unset, .unset, .unset] [(.int (own_t0_16 p0 p1 p2 q3 q4))])) (fun t k => XS.iload X146.her hx rfl (hb hby at_133) rfl k) ?_
            refine own_st (f' := (mkF m 136 #[.val (.int p0), .val (.int p1), .val (.int p2), .val (.long q3), .second, .val (.long q4), .second, .val (.int (own_t0_3 p0 p1 p2 q3 q4)), .val (.int (own_t0_16 p0 p1 p2 q3 q4)), .val (.ref bm113), .val (.ref bm114), .val (.ref b115), .val (.ref b143), .unset, .unset, .unset] [(.int (2 : Int32)), (.int (own_t0_16 p0 p1 p2 q3 q4))])) (fun t k => XS.iconst X146.her hx rfl (hb hby at_135) k) ?_
            refine own_st (f' := (mkF m 147 #[.val (.int p0), .val (.int p1), .val (.int p2), .val (.long q3), .second, .val (.long q4), .second, .val (.int (own_t0_3 p0 p1 p2 q3 q4)), .val (.int (own_t0_16 p0 p1 p2 q3 q4)), .val (.ref bm113), .val (.ref bm114), .val (.ref b115), .val (.ref b143), .unset, .unset, .unset] [])) (fun t k => XS.icmpYes X146.her hx rfl (pc0 := 136) (pc' := 147) rfl (hb hby at_136) rfl (flt (own_nl (by decide) hc147 : ¬ ((2 : Int32) < (own_t0_16 p0 p1 p2 q3 q4)))).2.2.2 (by decide) (by decide) k) ?_
            refine own_newO X146 hx hZ hown (own_w75 hw) (own_w76 hw) (own_w77 hw) (hb hby at_147) (by decide) (by decide) ?_
            intro T157 h157 b157 g157 q157 X157 E157 A157 D157
            have lt_vd_b157 : vd < b157 := Nat.lt_of_lt_of_le B146_vd.lt (Nat.le_of_eq g157.symm)
            have ne_vd_b157 : vd ≠ b157 := Nat.ne_of_lt (Nat.lt_of_lt_of_le B146_vd.lt (Nat.le_of_eq g157.symm))
            have B157_vd := B146_vd.ext E157
            have lt_bg118_b157 : bg118 < b157 := Nat.lt_of_lt_of_le B146_bg118.lt (Nat.le_of_eq g157.symm)
            have ne_bg118_b157 : bg118 ≠ b157 := Nat.ne_of_lt (Nat.lt_of_lt_of_le B146_bg118.lt (Nat.le_of_eq g157.symm))
            have B157_bg118 := B146_bg118.ext E157
            have lt_bg146_b157 : bg146 < b157 := Nat.lt_of_lt_of_le Bg146.lt (Nat.le_of_eq g157.symm)
            have ne_bg146_b157 : bg146 ≠ b157 := Nat.ne_of_lt (Nat.lt_of_lt_of_le Bg146.lt (Nat.le_of_eq g157.symm))
            have B157_bg146 := Bg146.ext E157
            have lt_bm113_b157 : bm113 < b157 := Nat.lt_of_lt_of_le A146_bm113.lt (Nat.le_of_eq g157.symm)
            have ne_bm113_b157 : bm113 ≠ b157 := Nat.ne_of_lt (Nat.lt_of_lt_of_le A146_bm113.lt (Nat.le_of_eq g157.symm))
            have A157_bm113 := A146_bm113.ext E157
            have lt_bm114_b157 : bm114 < b157 := Nat.lt_of_lt_of_le A146_bm114.lt (Nat.le_of_eq g157.symm)
            have ne_bm114_b157 : bm114 ≠ b157 := Nat.ne_of_lt (Nat.lt_of_lt_of_le A146_bm114.lt (Nat.le_of_eq g157.symm))
            have A157_bm114 := A146_bm114.ext E157
            have lt_b115_b157 : b115 < b157 := Nat.lt_of_lt_of_le A146_b115.lt (Nat.le_of_eq g157.symm)
            have ne_b115_b157 : b115 ≠ b157 := Nat.ne_of_lt (Nat.lt_of_lt_of_le A146_b115.lt (Nat.le_of_eq g157.symm))
            have A157_b115 := A146_b115.ext E157
            have lt_b143_b157 : b143 < b157 := Nat.lt_of_lt_of_le Ea146.lt (Nat.le_of_eq g157.symm)
            have ne_b143_b157 : b143 ≠ b157 := Nat.ne_of_lt (Nat.lt_of_lt_of_le Ea146.lt (Nat.le_of_eq g157.symm))
            have A157_b143 := Ea146.ext E157
            have F157_bm113_cents := F146_bm113_cents.ext E157
            have F157_bm114_cents := F146_bm114_cents.ext E157
            have F157_b115_modCount := F146_b115_modCount.ext E157
            have F157_b115_elementData := F146_b115_elementData.ext E157
            have F157_b115_size := F146_b115_size.ext E157
            have F157_b143_modCount := Fm146.ext E157
            have F157_b143_elementData := Fe146.ext E157
            have F157_b143_size := Fs146.ext E157
            have S157_DEFAULTCAPACITY_EMPTY_ELEMENTDATA := Sk146.ext E157
            have ga_b157 : n0 ≤ b157 := Nat.le_trans Z0 q157
            have Zn157 : n0 ≤ h157.size := Nat.le_trans Zn146 E157.1
            have F157_held : Fld Z h157 b157 "com/example/bidwright/bidwright/allocation/Supply" "held" "I" (.int (0 : Int32)) := D157 (Or.inr (own_w83 hw)) (ty := .int) (by decide)
            have F157_costs : Fld Z h157 b157 "com/example/bidwright/bidwright/allocation/Supply" "costs" "[J" .null := D157 (Or.inr (own_w129 hw)) (ty := (.array .long)) (by decide)
            have F157_revenues : Fld Z h157 b157 "com/example/bidwright/bidwright/allocation/Supply" "revenues" "[J" .null := D157 (Or.inr (own_w131 hw)) (ty := (.array .long)) (by decide)
            refine own_st (f' := (mkF m 151 #[.val (.int p0), .val (.int p1), .val (.int p2), .val (.long q3), .second, .val (.long q4), .second, .val (.int (own_t0_3 p0 p1 p2 q3 q4)), .val (.int (own_t0_16 p0 p1 p2 q3 q4)), .val (.ref bm113), .val (.ref bm114), .val (.ref b115), .val (.ref b143), .unset, .unset, .unset] [(.ref b157), (.ref b157)])) (fun t k => XS.dup X157.her hx rfl (hb hby at_150) rfl rfl k) ?_
            refine own_st (f' := (mkF m 152 #[.val (.int p0), .val (.int p1), .val (.int p2), .val (.long q3), .second, .val (.long q4), .second, .val (.int (own_t0_3 p0 p1 p2 q3 q4)), .val (.int (own_t0_16 p0 p1 p2 q3 q4)), .val (.ref bm113), .val (.ref bm114), .val (.ref b115), .val (.ref b143), .unset, .unset, .unset] [(.int p0), (.ref b157), (.ref b157)])) (fun t k => XS.iloadN X157.her hx rfl (hb hby at_151) rfl k) ?_
            refine own_st (f' := (mkF m 154 #[.val (.int p0), .val (.int p1), .val (.int p2), .val (.long q3), .second, .val (.long q4), .second, .val (.int (own_t0_3 p0 p1 p2 q3 q4)), .val (.int (own_t0_16 p0 p1 p2 q3 q4)), .val (.ref bm113), .val (.ref bm114), .val (.ref b115), .val (.ref b143), .unset, .unset, .unset] [(.ref b115), (.int p0), (.ref b157), (.ref b157)])) (fun t k => XS.aload X157.her hx rfl (hb hby at_152) rfl rfl k) ?_
            refine own_st (f' := (mkF m 156 #[.val (.int p0), .val (.int p1), .val (.int p2), .val (.long q3), .second, .val (.long q4), .second, .val (.int (own_t0_3 p0 p1 p2 q3 q4)), .val (.int (own_t0_16 p0 p1 p2 q3 q4)), .val (.ref bm113), .val (.ref bm114), .val (.ref b115), .val (.ref b143), .unset, .unset, .unset] [(.ref b143), (.ref b115), (.int p0), (.ref b157), (.ref b157)])) (fun t k => XS.aload X157.her hx rfl (hb hby at_154) rfl rfl k) ?_
            have LS158_2 : own_LS Z h157 b157 b115 [(bm113, (own_t0_27 p0 p1 p2 q3 q4)), (bm114, (own_t0_42 p0 p1 p2 q3 q4))] := ⟨lt_b115_b157, A157_b115, F157_b115_size, (Or.inr ⟨bg118, lt_bg118_b157, F157_b115_elementData, B157_bg118⟩), (own_qS ⟨lt_bm113_b157, A157_bm113, F157_bm113_cents, own_am27 p0 p1 p2 q3 q4⟩ (own_qS ⟨lt_bm114_b157, A157_bm114, F157_bm114_cents, own_am42 p0 p1 p2 q3 q4⟩ own_q0))⟩
            have LS158_3 : own_LS Z h157 b157 b143 [(bm114, (own_t0_42 p0 p1 p2 q3 q4))] := ⟨lt_b143_b157, A157_b143, F157_b143_size, (Or.inr ⟨bg146, lt_bg146_b157, F157_b143_elementData, B157_bg146⟩), (own_qS ⟨lt_bm114_b157, A157_bm114, F157_bm114_cents, own_am42 p0 p1 p2 q3 q4⟩ own_q0)⟩
            refine own_callC (y := (⟨"com/example/bidwright/bidwright/allocation/Supply", "<init>", "(ILjava/util/List;Ljava/util/List;)V"⟩ : MethodName)) (W := 1) [(.int p0), (.ref b115), (.ref b143)] X157 hx hZ hown rfl (own_w78 hw) (own_w79 hw) (own_w77 hw) (own_w80 hw) (by decide) (own_c13 l Z a0 hw h157 n0 Zn157 b157 p0 b115 b143 b157 _ _ A157 F157_held F157_costs F157_revenues ga_b157 (Nat.le_refl _) LS158_2 LS158_3 (by show 2 ≤ 3; decide) (by show 1 ≤ 3; decide)) (allS (Or.inr q157) all0) (by decide) (by decide) (by decide) (by decide) (by rw [hml]; rfl) own_pd14 rfl rfl (Nat.le_of_eq rfl) (hb hby at_156) ?_
            rintro v158 T158 h158 X158 K158 ⟨rfl, Ax158, Fh158, bt158, La158, Fc158, Bt158, hl158⟩
            have B158_vd := B157_vd.keep K158 (ninS ne_vd_b157 nin0)
            have B158_bg118 := B157_bg118.keep K158 (ninS ne_bg118_b157 nin0)
            have B158_bg146 := B157_bg146.keep K158 (ninS ne_bg146_b157 nin0)
            have F158_bm113_cents := F157_bm113_cents.keep K158 (ninS ne_bm113_b157 nin0)
            have F158_bm114_cents := F157_bm114_cents.keep K158 (ninS ne_bm114_b157 nin0)
            have F158_b115_modCount := F157_b115_modCount.keep K158 (ninS ne_b115_b157 nin0)
            have F158_b115_elementData := F157_b115_elementData.keep K158 (ninS ne_b115_b157 nin0)
            have F158_b115_size := F157_b115_size.keep K158 (ninS ne_b115_b157 nin0)
            have F158_b143_modCount := F157_b143_modCount.keep K158 (ninS ne_b143_b157 nin0)
            have F158_b143_elementData := F157_b143_elementData.keep K158 (ninS ne_b143_b157 nin0)
            have F158_b143_size := F157_b143_size.keep K158 (ninS ne_b143_b157 nin0)
            have A158_bm113 := A157_bm113.keep K158
            have A158_bm114 := A157_bm114.keep K158
            have A158_b115 := A157_b115.keep K158
            have A158_b143 := A157_b143.keep K158
            have A158_b157 := A157.keep K158
            have Zn158 : n0 ≤ h158.size := Nat.le_trans Zn157 K158.1
            show own_G p e below _ T158 (mkF m 159 #[.val (.int p0), .val (.int p1), .val (.int p2), .val (.long q3), .second, .val (.long q4), .second, .val (.int (own_t0_3 p0 p1 p2 q3 q4)), .val (.int (own_t0_16 p0 p1 p2 q3 q4)), .val (.ref bm113), .val (.ref bm114), .val (.ref b115), .val (.ref b143), .unset, .unset, .unset] [(.ref b157)])
            refine own_st (f' := (mkF m 161 #[.val (.int p0), .val (.int p1), .val (.int p2), .val (.long q3), .second, .val (.long q4), .second, .val (.int (own_t0_3 p0 p1 p2 q3 q4)), .val (.int (own_t0_16 p0 p1 p2 q3 q4)), .val (.ref bm113), .val (.ref bm114), .val (.ref b115), .val (.ref b143), .val (.ref b157), .unset, .unset] [])) (fun t k => XS.astore X158.her hx rfl (hb hby at_159) rfl rfl (l' := #[.val (.int p0), .val (.int p1), .val (.int p2), .val (.long q3), .second, .val (.long q4), .second, .val (.int (own_t0_3 p0 p1 p2 q3 q4)), .val (.int (own_t0_16 p0 p1 p2 q3 q4)), .val (.ref bm113), .val (.ref bm114), .val (.ref b115), .val (.ref b143), .val (.ref b157), .unset, .unset]) rfl k) ?_
            refine own_st (f' := (mkF m 162 #[.val (.int p0), .val (.int p1), .val (.int p2), .val (.long q3), .second, .val (.long q4), .second, .val (.int (own_t0_3 p0 p1 p2 q3 q4)), .val (.int (own_t0_16 p0 p1 p2 q3 q4)), .val (.ref bm113), .val (.ref bm114), .val (.ref b115), .val (.ref b143), .val (.ref b157), .unset, .unset] [(.int p0)])) (fun t k => XS.iloadN X158.her hx rfl (hb hby at_161) rfl k) ?_
            refine own_st (f' := (mkF m 163 #[.val (.int p0), .val (.int p1), .val (.int p2), .val (.long q3), .second, .val (.long q4), .second, .val (.int (own_t0_3 p0 p1 p2 q3 q4)), .val (.int (own_t0_16 p0 p1 p2 q3 q4)), .val (.ref bm113), .val (.ref bm114), .val (.ref b115), .val (.ref b143), .val (.ref b157), .unset, .unset] [(.long (p0.toInt64))])) (fun t k => XS.i2l X158.her hx rfl (hb hby at_162) rfl k) ?_
            refine own_st (f' := (mkF m 165 #[.val (.int p0), .val (.int p1), .val (.int p2), .val (.long q3), .second, .val (.long q4), .second, .val (.int (own_t0_3 p0 p1 p2 q3 q4)), .val (.int (own_t0_16 p0 p1 p2 q3 q4)), .val (.ref bm113), .val (.ref bm114), .val (.ref b115), .val (.ref b143), .val (.ref b157), .unset, .unset] [(.int (own_t0_3 p0 p1 p2 q3 q4)), (.long (p0.toInt64))])) (fun t k => XS.iload X158.her hx rfl (hb hby at_163) rfl k) ?_
            refine own_st (f' := (mkF m 166 #[.val (.int p0), .val (.int p1), .val (.int p2), .val (.long q3), .second, .val (.long q4), .second, .val (.int (own_t0_3 p0 p1 p2 q3 q4)), .val (.int (own_t0_16 p0 p1 p2 q3 q4)), .val (.ref bm113), .val (.ref bm114), .val (.ref b115), .val (.ref b143), .val (.ref b157), .unset, .unset] [(.long ((own_t0_3 p0 p1 p2 q3 q4).toInt64)), (.long (p0.toInt64))])) (fun t k => XS.i2l X158.her hx rfl (hb hby at_165) rfl k) ?_
            refine own_st (f' := (mkF m 167 #[.val (.int p0), .val (.int p1), .val (.int p2), .val (.long q3), .second, .val (.long q4), .second, .val (.int (own_t0_3 p0 p1 p2 q3 q4)), .val (.int (own_t0_16 p0 p1 p2 q3 q4)), .val (.ref bm113), .val (.ref bm114), .val (.ref b115), .val (.ref b143), .val (.ref b157), .unset, .unset] [(.long ((p0.toInt64) + ((own_t0_3 p0 p1 p2 q3 q4).toInt64)))])) (fun t k => XS.ladd X158.her hx rfl (hb hby at_166) rfl k) ?_
            refine own_st (f' := (mkF m 169 #[.val (.int p0), .val (.int p1), .val (.int p2), .val (.long q3), .second, .val (.long q4), .second, .val (.int (own_t0_3 p0 p1 p2 q3 q4)), .val (.int (own_t0_16 p0 p1 p2 q3 q4)), .val (.ref bm113), .val (.ref bm114), .val (.ref b115), .val (.ref b143), .val (.ref b157), .val (.long (own_t0_167 p0 p1 p2 q3 q4)), .second] [])) (fun t k => XS.lstore X158.her hx rfl (hb hby at_167) rfl (l' := #[.val (.int p0), .val (.int p1), .val (.int p2), .val (.long q3), .second, .val (.long q4), .second, .val (.int (own_t0_3 p0 p1 p2 q3 q4)), .val (.int (own_t0_16 p0 p1 p2 q3 q4)), .val (.ref bm113), .val (.ref bm114), .val (.ref b115), .val (.ref b143), .val (.ref b157), .val (.long (own_t0_167 p0 p1 p2 q3 q4)), .second]) rfl k) ?_
            refine own_st (f' := (mkF m 171 #[.val (.int p0), .val (.int p1), .val (.int p2), .val (.long q3), .second, .val (.long q4), .second, .val (.int (own_t0_3 p0 p1 p2 q3 q4)), .val (.int (own_t0_16 p0 p1 p2 q3 q4)), .val (.ref bm113), .val (.ref bm114), .val (.ref b115), .val (.ref b143), .val (.ref b157), .val (.long (own_t0_167 p0 p1 p2 q3 q4)), .second] [(.ref b157)])) (fun t k => XS.aload X158.her hx rfl (hb hby at_169) rfl rfl k) ?_
            refine own_callVP (y := (⟨"com/example/bidwright/bidwright/allocation/Supply", "most", "()J"⟩ : MethodName)) (W := 0) [] X158 hx hZ hown (own_w132 hw) (own_w133 hw) (own_w135 hw) (own_w134 hw) (own_w77 hw) (own_w136 hw) (by decide) Ax158 (own_c22 l Z a0 hw h158 n0 Zn158 b157 p0 (3 : Int32) bt158 _ Fh158 Fc158 Bt158 (by rw [hl158]; rfl)) (by decide) (by decide) (by decide) (by decide) (by rw [hml]; rfl) own_pd11 rfl rfl (Nat.le_of_eq rfl) (hb hby at_171) ?_
            intro T159 X159
            show own_G p e below _ T159 (mkF m 174 #[.val (.int p0), .val (.int p1), .val (.int p2), .val (.long q3), .second, .val (.long q4), .second, .val (.int (own_t0_3 p0 p1 p2 q3 q4)), .val (.int (own_t0_16 p0 p1 p2 q3 q4)), .val (.ref bm113), .val (.ref bm114), .val (.ref b115), .val (.ref b143), .val (.ref b157), .val (.long (own_t0_167 p0 p1 p2 q3 q4)), .second] [(.long ((p0.toInt64 + (3 : Int32).toInt64) - 1))])
            refine own_st (f' := (mkF m 176 #[.val (.int p0), .val (.int p1), .val (.int p2), .val (.long q3), .second, .val (.long q4), .second, .val (.int (own_t0_3 p0 p1 p2 q3 q4)), .val (.int (own_t0_16 p0 p1 p2 q3 q4)), .val (.ref bm113), .val (.ref bm114), .val (.ref b115), .val (.ref b143), .val (.ref b157), .val (.long (own_t0_167 p0 p1 p2 q3 q4)), .second] [(.long (own_t0_167 p0 p1 p2 q3 q4)), (.long ((p0.toInt64 + (3 : Int32).toInt64) - 1))])) (fun t k => XS.lload X159.her hx rfl (hb hby at_174) rfl k) ?_
            refine own_st (f' := (mkF m 177 #[.val (.int p0), .val (.int p1), .val (.int p2), .val (.long q3), .second, .val (.long q4), .second, .val (.int (own_t0_3 p0 p1 p2 q3 q4)), .val (.int (own_t0_16 p0 p1 p2 q3 q4)), .val (.ref bm113), .val (.ref bm114), .val (.ref b115), .val (.ref b143), .val (.ref b157), .val (.long (own_t0_167 p0 p1 p2 q3 q4)), .second] [(.int (lcmpW ((p0.toInt64 + (3 : Int32).toInt64) - 1) (own_t0_167 p0 p1 p2 q3 q4)))])) (fun t k => XS.lcmp X159.her hx rfl (hb hby at_176) rfl k) ?_
            refine own_st (f' := (mkF m 180 #[.val (.int p0), .val (.int p1), .val (.int p2), .val (.long q3), .second, .val (.long q4), .second, .val (.int (own_t0_3 p0 p1 p2 q3 q4)), .val (.int (own_t0_16 p0 p1 p2 q3 q4)), .val (.ref bm113), .val (.ref bm114), .val (.ref b115), .val (.ref b143), .val (.ref b157), .val (.long (own_t0_167 p0 p1 p2 q3 q4)), .second] [])) (fun t k => XS.ifNo X159.her hx rfl (hb hby at_177) rfl ((if0 _ _).trans (teq ((lw_eq _ _).mpr (own_fin _ _ _ (by rw [own_nb2 p0 p1 p2 q3 q4 hc119 hc121]; decide)) : (lcmpW ((p0.toInt64 + (3 : Int32).toInt64) - 1) (own_t0_167 p0 p1 p2 q3 q4)) = (0 : Int32))).2) k) ?_
            refine own_st (f' := (mkF m 181 #[.val (.int p0), .val (.int p1), .val (.int p2), .val (.long q3), .second, .val (.long q4), .second, .val (.int (own_t0_3 p0 p1 p2 q3 q4)), .val (.int (own_t0_16 p0 p1 p2 q3 q4)), .val (.ref bm113), .val (.ref bm114), .val (.ref b115), .val (.ref b143), .val (.ref b157), .val (.long (own_t0_167 p0 p1 p2 q3 q4)), .second] [(.int (1 : Int32))])) (fun t k => XS.iconst X159.her hx rfl (hb hby at_180) k) ?_
            refine own_st (f' := (mkF m 185 #[.val (.int p0), .val (.int p1), .val (.int p2), .val (.long q3), .second, .val (.long q4), .second, .val (.int (own_t0_3 p0 p1 p2 q3 q4)), .val (.int (own_t0_16 p0 p1 p2 q3 q4)), .val (.ref bm113), .val (.ref bm114), .val (.ref b115), .val (.ref b143), .val (.ref b157), .val (.long (own_t0_167 p0 p1 p2 q3 q4)), .second] [(.int (1 : Int32))])) (fun t k => XS.goto X159.her hx rfl (pc0 := 181) (pc' := 185) rfl (hb hby at_181) (by decide) (by decide) k) ?_
            refine own_retN (t := .boolean) X159 hx hret hlk (by simp) (hb hby at_185) (by first | decide | omega) (by first | decide | omega) ?_
            exact congrArg (fun q => some (Value.int q)) (by decide)
        · refine own_st (f' := (mkF m 119 #[.val (.int p0), .val (.int p1), .val (.int p2), .val (.long q3), .second, .val (.long q4), .second, .val (.int (own_t0_3 p0 p1 p2 q3 q4)), .val (.int (own_t0_16 p0 p1 p2 q3 q4)), .val (.ref bm113), .val (.ref bm114), .val (.ref b115), .val (.ref b143), .unset, .unset, .unset] [])) (fun t k => XS.ifYes X144.her hx rfl (pc0 := 108) (pc' := 119) rfl (hb hby at_108) rfl ((if0 _ _).trans (flt hc145).2.2.2) (by decide) (by decide) k) ?_
          refine own_st (f' := (mkF m 121 #[.val (.int p0), .val (.int p1), .val (.int p2), .val (.long q3), .second, .val (.long q4), .second, .val (.int (own_t0_3 p0 p1 p2 q3 q4)), .val (.int (own_t0_16 p0 p1 p2 q3 q4)), .val (.ref bm113), .val (.ref bm114), .val (.ref b115), .val (.ref b143), .unset, .unset, .unset] [(.int (own_t0_16 p0 p1 p2 q3 q4))])) (fun t k => XS.iload X144.her hx rfl (hb hby at_119) rfl k) ?_
          refine own_st (f' := (mkF m 122 #[.val (.int p0), .val (.int p1), .val (.int p2), .val (.long q3), .second, .val (.long q4), .second, .val (.int (own_t0_3 p0 p1 p2 q3 q4)), .val (.int (own_t0_16 p0 p1 p2 q3 q4)), .val (.ref bm113), .val (.ref bm114), .val (.ref b115), .val (.ref b143), .unset, .unset, .unset] [(.int (1 : Int32)), (.int (own_t0_16 p0 p1 p2 q3 q4))])) (fun t k => XS.iconst X144.her hx rfl (hb hby at_121) k) ?_
          refine own_st (f' := (mkF m 133 #[.val (.int p0), .val (.int p1), .val (.int p2), .val (.long q3), .second, .val (.long q4), .second, .val (.int (own_t0_3 p0 p1 p2 q3 q4)), .val (.int (own_t0_16 p0 p1 p2 q3 q4)), .val (.ref bm113), .val (.ref bm114), .val (.ref b115), .val (.ref b143), .unset, .unset, .unset] [])) (fun t k => XS.icmpYes X144.her hx rfl (pc0 := 122) (pc' := 133) rfl (hb hby at_122) rfl (flt (own_nl (by decide) hc145 : ¬ ((1 : Int32) < (own_t0_16 p0 p1 p2 q3 q4)))).2.2.2 (by decide) (by decide) k) ?_
          refine own_st (f' := (mkF m 135 #[.val (.int p0), .val (.int p1), .val (.int p2), .val (.long q3), .second, .val (.long q4), .second, .val (.int (own_t0_3 p0 p1 p2 q3 q4)), .val (.int (own_t0_16 p0 p1 p2 q3 q4)), .val (.ref bm113), .val (.ref bm114), .val (.ref b115), .val (.ref b143), .unset, .unset, .unset] [(.int (own_t0_16 p0 p1 p2 q3 q4))])) (fun t k => XS.iload X144.her hx rfl (hb hby at_133) rfl k) ?_
          refine own_st (f' := (mkF m 136 #[.val (.int p0), .val (.int p1), .val (.int p2), .val (.long q3), .second, .val (.long q4), .second, .val (.int (own_t0_3 p0 p1 p2 q3 q4)), .val (.int (own_t0_16 p0 p1 p2 q3 q4)), .val (.ref bm113), .val (.ref bm114), .val (.ref b115), .val (.ref b143), .unset, .unset, .unset] [(.int (2 : Int32)), (.int (own_t0_16 p0 p1 p2 q3 q4))])) (fun t k => XS.iconst X144.her hx rfl (hb hby at_135) k) ?_
          refine own_st (f' := (mkF m 147 #[.val (.int p0), .val (.int p1), .val (.int p2), .val (.long q3), .second, .val (.long q4), .second, .val (.int (own_t0_3 p0 p1 p2 q3 q4)), .val (.int (own_t0_16 p0 p1 p2 q3 q4)), .val (.ref bm113), .val (.ref bm114), .val (.ref b115), .val (.ref b143), .unset, .unset, .unset] [])) (fun t k => XS.icmpYes X144.her hx rfl (pc0 := 136) (pc' := 147) rfl (hb hby at_136) rfl (flt (own_nl (by decide) hc145 : ¬ ((2 : Int32) < (own_t0_16 p0 p1 p2 q3 q4)))).2.2.2 (by decide) (by decide) k) ?_
          refine own_newO X144 hx hZ hown (own_w75 hw) (own_w76 hw) (own_w77 hw) (hb hby at_147) (by decide) (by decide) ?_
          intro T160 h160 b160 g160 q160 X160 E160 A160 D160
          have lt_vd_b160 : vd < b160 := Nat.lt_of_lt_of_le B144_vd.lt (Nat.le_of_eq g160.symm)
          have ne_vd_b160 : vd ≠ b160 := Nat.ne_of_lt (Nat.lt_of_lt_of_le B144_vd.lt (Nat.le_of_eq g160.symm))
          have B160_vd := B144_vd.ext E160
          have lt_bg118_b160 : bg118 < b160 := Nat.lt_of_lt_of_le B144_bg118.lt (Nat.le_of_eq g160.symm)
          have ne_bg118_b160 : bg118 ≠ b160 := Nat.ne_of_lt (Nat.lt_of_lt_of_le B144_bg118.lt (Nat.le_of_eq g160.symm))
          have B160_bg118 := B144_bg118.ext E160
          have lt_bm113_b160 : bm113 < b160 := Nat.lt_of_lt_of_le A144_bm113.lt (Nat.le_of_eq g160.symm)
          have ne_bm113_b160 : bm113 ≠ b160 := Nat.ne_of_lt (Nat.lt_of_lt_of_le A144_bm113.lt (Nat.le_of_eq g160.symm))
          have A160_bm113 := A144_bm113.ext E160
          have lt_bm114_b160 : bm114 < b160 := Nat.lt_of_lt_of_le A144_bm114.lt (Nat.le_of_eq g160.symm)
          have ne_bm114_b160 : bm114 ≠ b160 := Nat.ne_of_lt (Nat.lt_of_lt_of_le A144_bm114.lt (Nat.le_of_eq g160.symm))
          have A160_bm114 := A144_bm114.ext E160
          have lt_b115_b160 : b115 < b160 := Nat.lt_of_lt_of_le A144_b115.lt (Nat.le_of_eq g160.symm)
          have ne_b115_b160 : b115 ≠ b160 := Nat.ne_of_lt (Nat.lt_of_lt_of_le A144_b115.lt (Nat.le_of_eq g160.symm))
          have A160_b115 := A144_b115.ext E160
          have lt_b143_b160 : b143 < b160 := Nat.lt_of_lt_of_le Ea144.lt (Nat.le_of_eq g160.symm)
          have ne_b143_b160 : b143 ≠ b160 := Nat.ne_of_lt (Nat.lt_of_lt_of_le Ea144.lt (Nat.le_of_eq g160.symm))
          have A160_b143 := Ea144.ext E160
          have F160_bm113_cents := F144_bm113_cents.ext E160
          have F160_bm114_cents := F144_bm114_cents.ext E160
          have F160_b115_modCount := F144_b115_modCount.ext E160
          have F160_b115_elementData := F144_b115_elementData.ext E160
          have F160_b115_size := F144_b115_size.ext E160
          have F160_b143_modCount := Fm144.ext E160
          have F160_b143_elementData := Fe144.ext E160
          have F160_b143_size := Fs144.ext E160
          have S160_DEFAULTCAPACITY_EMPTY_ELEMENTDATA := Sk144.ext E160
          have ga_b160 : n0 ≤ b160 := Nat.le_trans Z0 q160
          have Zn160 : n0 ≤ h160.size := Nat.le_trans Zn144 E160.1
          have F160_held : Fld Z h160 b160 "com/example/bidwright/bidwright/allocation/Supply" "held" "I" (.int (0 : Int32)) := D160 (Or.inr (own_w83 hw)) (ty := .int) (by decide)
          have F160_costs : Fld Z h160 b160 "com/example/bidwright/bidwright/allocation/Supply" "costs" "[J" .null := D160 (Or.inr (own_w129 hw)) (ty := (.array .long)) (by decide)
          have F160_revenues : Fld Z h160 b160 "com/example/bidwright/bidwright/allocation/Supply" "revenues" "[J" .null := D160 (Or.inr (own_w131 hw)) (ty := (.array .long)) (by decide)
          refine own_st (f' := (mkF m 151 #[.val (.int p0), .val (.int p1), .val (.int p2), .val (.long q3), .second, .val (.long q4), .second, .val (.int (own_t0_3 p0 p1 p2 q3 q4)), .val (.int (own_t0_16 p0 p1 p2 q3 q4)), .val (.ref bm113), .val (.ref bm114), .val (.ref b115), .val (.ref b143), .unset, .unset, .unset] [(.ref b160), (.ref b160)])) (fun t k => XS.dup X160.her hx rfl (hb hby at_150) rfl rfl k) ?_
          refine own_st (f' := (mkF m 152 #[.val (.int p0), .val (.int p1), .val (.int p2), .val (.long q3), .second, .val (.long q4), .second, .val (.int (own_t0_3 p0 p1 p2 q3 q4)), .val (.int (own_t0_16 p0 p1 p2 q3 q4)), .val (.ref bm113), .val (.ref bm114), .val (.ref b115), .val (.ref b143), .unset, .unset, .unset] [(.int p0), (.ref b160), (.ref b160)])) (fun t k => XS.iloadN X160.her hx rfl (hb hby at_151) rfl k) ?_
          refine own_st (f' := (mkF m 154 #[.val (.int p0), .val (.int p1), .val (.int p2), .val (.long q3), .second, .val (.long q4), .second, .val (.int (own_t0_3 p0 p1 p2 q3 q4)), .val (.int (own_t0_16 p0 p1 p2 q3 q4)), .val (.ref bm113), .val (.ref bm114), .val (.ref b115), .val (.ref b143), .unset, .unset, .unset] [(.ref b115), (.int p0), (.ref b160), (.ref b160)])) (fun t k => XS.aload X160.her hx rfl (hb hby at_152) rfl rfl k) ?_
          refine own_st (f' := (mkF m 156 #[.val (.int p0), .val (.int p1), .val (.int p2), .val (.long q3), .second, .val (.long q4), .second, .val (.int (own_t0_3 p0 p1 p2 q3 q4)), .val (.int (own_t0_16 p0 p1 p2 q3 q4)), .val (.ref bm113), .val (.ref bm114), .val (.ref b115), .val (.ref b143), .unset, .unset, .unset] [(.ref b143), (.ref b115), (.int p0), (.ref b160), (.ref b160)])) (fun t k => XS.aload X160.her hx rfl (hb hby at_154) rfl rfl k) ?_
          have LS161_2 : own_LS Z h160 b160 b115 [(bm113, (own_t0_27 p0 p1 p2 q3 q4)), (bm114, (own_t0_42 p0 p1 p2 q3 q4))] := ⟨lt_b115_b160, A160_b115, F160_b115_size, (Or.inr ⟨bg118, lt_bg118_b160, F160_b115_elementData, B160_bg118⟩), (own_qS ⟨lt_bm113_b160, A160_bm113, F160_bm113_cents, own_am27 p0 p1 p2 q3 q4⟩ (own_qS ⟨lt_bm114_b160, A160_bm114, F160_bm114_cents, own_am42 p0 p1 p2 q3 q4⟩ own_q0))⟩
          have LS161_3 : own_LS Z h160 b160 b143 [] := ⟨lt_b143_b160, A160_b143, F160_b143_size, (Or.inl rfl), own_q0⟩
          refine own_callC (y := (⟨"com/example/bidwright/bidwright/allocation/Supply", "<init>", "(ILjava/util/List;Ljava/util/List;)V"⟩ : MethodName)) (W := 1) [(.int p0), (.ref b115), (.ref b143)] X160 hx hZ hown rfl (own_w78 hw) (own_w79 hw) (own_w77 hw) (own_w80 hw) (by decide) (own_c13 l Z a0 hw h160 n0 Zn160 b160 p0 b115 b143 b160 _ _ A160 F160_held F160_costs F160_revenues ga_b160 (Nat.le_refl _) LS161_2 LS161_3 (by show 2 ≤ 3; decide) (by show 0 ≤ 3; decide)) (allS (Or.inr q160) all0) (by decide) (by decide) (by decide) (by decide) (by rw [hml]; rfl) own_pd14 rfl rfl (Nat.le_of_eq rfl) (hb hby at_156) ?_
          rintro v161 T161 h161 X161 K161 ⟨rfl, Ax161, Fh161, bt161, La161, Fc161, Bt161, hl161⟩
          have B161_vd := B160_vd.keep K161 (ninS ne_vd_b160 nin0)
          have B161_bg118 := B160_bg118.keep K161 (ninS ne_bg118_b160 nin0)
          have F161_bm113_cents := F160_bm113_cents.keep K161 (ninS ne_bm113_b160 nin0)
          have F161_bm114_cents := F160_bm114_cents.keep K161 (ninS ne_bm114_b160 nin0)
          have F161_b115_modCount := F160_b115_modCount.keep K161 (ninS ne_b115_b160 nin0)
          have F161_b115_elementData := F160_b115_elementData.keep K161 (ninS ne_b115_b160 nin0)
          have F161_b115_size := F160_b115_size.keep K161 (ninS ne_b115_b160 nin0)
          have F161_b143_modCount := F160_b143_modCount.keep K161 (ninS ne_b143_b160 nin0)
          have F161_b143_elementData := F160_b143_elementData.keep K161 (ninS ne_b143_b160 nin0)
          have F161_b143_size := F160_b143_size.keep K161 (ninS ne_b143_b160 nin0)
          have A161_bm113 := A160_bm113.keep K161
          have A161_bm114 := A160_bm114.keep K161
          have A161_b115 := A160_b115.keep K161
          have A161_b143 := A160_b143.keep K161
          have A161_b160 := A160.keep K161
          have Zn161 : n0 ≤ h161.size := Nat.le_trans Zn160 K161.1
          show own_G p e below _ T161 (mkF m 159 #[.val (.int p0), .val (.int p1), .val (.int p2), .val (.long q3), .second, .val (.long q4), .second, .val (.int (own_t0_3 p0 p1 p2 q3 q4)), .val (.int (own_t0_16 p0 p1 p2 q3 q4)), .val (.ref bm113), .val (.ref bm114), .val (.ref b115), .val (.ref b143), .unset, .unset, .unset] [(.ref b160)])
          refine own_st (f' := (mkF m 161 #[.val (.int p0), .val (.int p1), .val (.int p2), .val (.long q3), .second, .val (.long q4), .second, .val (.int (own_t0_3 p0 p1 p2 q3 q4)), .val (.int (own_t0_16 p0 p1 p2 q3 q4)), .val (.ref bm113), .val (.ref bm114), .val (.ref b115), .val (.ref b143), .val (.ref b160), .unset, .unset] [])) (fun t k => XS.astore X161.her hx rfl (hb hby at_159) rfl rfl (l' := #[.val (.int p0), .val (.int p1), .val (.int p2), .val (.long q3), .second, .val (.long q4), .second, .val (.int (own_t0_3 p0 p1 p2 q3 q4)), .val (.int (own_t0_16 p0 p1 p2 q3 q4)), .val (.ref bm113), .val (.ref bm114), .val (.ref b115), .val (.ref b143), .val (.ref b160), .unset, .unset]) rfl k) ?_
          refine own_st (f' := (mkF m 162 #[.val (.int p0), .val (.int p1), .val (.int p2), .val (.long q3), .second, .val (.long q4), .second, .val (.int (own_t0_3 p0 p1 p2 q3 q4)), .val (.int (own_t0_16 p0 p1 p2 q3 q4)), .val (.ref bm113), .val (.ref bm114), .val (.ref b115), .val (.ref b143), .val (.ref b160), .unset, .unset] [(.int p0)])) (fun t k => XS.iloadN X161.her hx rfl (hb hby at_161) rfl k) ?_
          refine own_st (f' := (mkF m 163 #[.val (.int p0), .val (.int p1), .val (.int p2), .val (.long q3), .second, .val (.long q4), .second, .val (.int (own_t0_3 p0 p1 p2 q3 q4)), .val (.int (own_t0_16 p0 p1 p2 q3 q4)), .val (.ref bm113), .val (.ref bm114), .val (.ref b115), .val (.ref b143), .val (.ref b160), .unset, .unset] [(.long (p0.toInt64))])) (fun t k => XS.i2l X161.her hx rfl (hb hby at_162) rfl k) ?_
          refine own_st (f' := (mkF m 165 #[.val (.int p0), .val (.int p1), .val (.int p2), .val (.long q3), .second, .val (.long q4), .second, .val (.int (own_t0_3 p0 p1 p2 q3 q4)), .val (.int (own_t0_16 p0 p1 p2 q3 q4)), .val (.ref bm113), .val (.ref bm114), .val (.ref b115), .val (.ref b143), .val (.ref b160), .unset, .unset] [(.int (own_t0_3 p0 p1 p2 q3 q4)), (.long (p0.toInt64))])) (fun t k => XS.iload X161.her hx rfl (hb hby at_163) rfl k) ?_
          refine own_st (f' := (mkF m 166 #[.val (.int p0), .val (.int p1), .val (.int p2), .val (.long q3), .second, .val (.long q4), .second, .val (.int (own_t0_3 p0 p1 p2 q3 q4)), .val (.int (own_t0_16 p0 p1 p2 q3 q4)), .val (.ref bm113), .val (.ref bm114), .val (.ref b115), .val (.ref b143), .val (.ref b160), .unset, .unset] [(.long ((own_t0_3 p0 p1 p2 q3 q4).toInt64)), (.long (p0.toInt64))])) (fun t k => XS.i2l X161.her hx rfl (hb hby at_165) rfl k) ?_
          refine own_st (f' := (mkF m 167 #[.val (.int p0), .val (.int p1), .val (.int p2), .val (.long q3), .second, .val (.long q4), .second, .val (.int (own_t0_3 p0 p1 p2 q3 q4)), .val (.int (own_t0_16 p0 p1 p2 q3 q4)), .val (.ref bm113), .val (.ref bm114), .val (.ref b115), .val (.ref b143), .val (.ref b160), .unset, .unset] [(.long ((p0.toInt64) + ((own_t0_3 p0 p1 p2 q3 q4).toInt64)))])) (fun t k => XS.ladd X161.her hx rfl (hb hby at_166) rfl k) ?_
          refine own_st (f' := (mkF m 169 #[.val (.int p0), .val (.int p1), .val (.int p2), .val (.long q3), .second, .val (.long q4), .second, .val (.int (own_t0_3 p0 p1 p2 q3 q4)), .val (.int (own_t0_16 p0 p1 p2 q3 q4)), .val (.ref bm113), .val (.ref bm114), .val (.ref b115), .val (.ref b143), .val (.ref b160), .val (.long (own_t0_167 p0 p1 p2 q3 q4)), .second] [])) (fun t k => XS.lstore X161.her hx rfl (hb hby at_167) rfl (l' := #[.val (.int p0), .val (.int p1), .val (.int p2), .val (.long q3), .second, .val (.long q4), .second, .val (.int (own_t0_3 p0 p1 p2 q3 q4)), .val (.int (own_t0_16 p0 p1 p2 q3 q4)), .val (.ref bm113), .val (.ref bm114), .val (.ref b115), .val (.ref b143), .val (.ref b160), .val (.long (own_t0_167 p0 p1 p2 q3 q4)), .second]) rfl k) ?_
          refine own_st (f' := (mkF m 171 #[.val (.int p0), .val (.int p1), .val (.int p2), .val (.long q3), .second, .val (.long q4), .second, .val (.int (own_t0_3 p0 p1 p2 q3 q4)), .val (.int (own_t0_16 p0 p1 p2 q3 q4)), .val (.ref bm113), .val (.ref bm114), .val (.ref b115), .val (.ref b143), .val (.ref b160), .val (.long (own_t0_167 p0 p1 p2 q3 q4)), .second] [(.ref b160)])) (fun t k => XS.aload X161.her hx rfl (hb hby at_169) rfl rfl k) ?_
          refine own_callVP (y := (⟨"com/example/bidwright/bidwright/allocation/Supply", "most", "()J"⟩ : MethodName)) (W := 0) [] X161 hx hZ hown (own_w132 hw) (own_w133 hw) (own_w135 hw) (own_w134 hw) (own_w77 hw) (own_w136 hw) (by decide) Ax161 (own_c22 l Z a0 hw h161 n0 Zn161 b160 p0 (3 : Int32) bt161 _ Fh161 Fc161 Bt161 (by rw [hl161]; rfl)) (by decide) (by decide) (by decide) (by decide) (by rw [hml]; rfl) own_pd11 rfl rfl (Nat.le_of_eq rfl) (hb hby at_171) ?_
          intro T162 X162
          show own_G p e below _ T162 (mkF m 174 #[.val (.int p0), .val (.int p1), .val (.int p2), .val (.long q3), .second, .val (.long q4), .second, .val (.int (own_t0_3 p0 p1 p2 q3 q4)), .val (.int (own_t0_16 p0 p1 p2 q3 q4)), .val (.ref bm113), .val (.ref bm114), .val (.ref b115), .val (.ref b143), .val (.ref b160), .val (.long (own_t0_167 p0 p1 p2 q3 q4)), .second] [(.long ((p0.toInt64 + (3 : Int32).toInt64) - 1))])
          refine own_st (f' := (mkF m 176 #[.val (.int p0), .val (.int p1), .val (.int p2), .val (.long q3), .second, .val (.long q4), .second, .val (.int (own_t0_3 p0 p1 p2 q3 q4)), .val (.int (own_t0_16 p0 p1 p2 q3 q4)), .val (.ref bm113), .val (.ref bm114), .val (.ref b115), .val (.ref b143), .val (.ref b160), .val (.long (own_t0_167 p0 p1 p2 q3 q4)), .second] [(.long (own_t0_167 p0 p1 p2 q3 q4)), (.long ((p0.toInt64 + (3 : Int32).toInt64) - 1))])) (fun t k => XS.lload X162.her hx rfl (hb hby at_174) rfl k) ?_
          refine own_st (f' := (mkF m 177 #[.val (.int p0), .val (.int p1), .val (.int p2), .val (.long q3), .second, .val (.long q4), .second, .val (.int (own_t0_3 p0 p1 p2 q3 q4)), .val (.int (own_t0_16 p0 p1 p2 q3 q4)), .val (.ref bm113), .val (.ref bm114), .val (.ref b115), .val (.ref b143), .val (.ref b160), .val (.long (own_t0_167 p0 p1 p2 q3 q4)), .second] [(.int (lcmpW ((p0.toInt64 + (3 : Int32).toInt64) - 1) (own_t0_167 p0 p1 p2 q3 q4)))])) (fun t k => XS.lcmp X162.her hx rfl (hb hby at_176) rfl k) ?_
          refine own_st (f' := (mkF m 180 #[.val (.int p0), .val (.int p1), .val (.int p2), .val (.long q3), .second, .val (.long q4), .second, .val (.int (own_t0_3 p0 p1 p2 q3 q4)), .val (.int (own_t0_16 p0 p1 p2 q3 q4)), .val (.ref bm113), .val (.ref bm114), .val (.ref b115), .val (.ref b143), .val (.ref b160), .val (.long (own_t0_167 p0 p1 p2 q3 q4)), .second] [])) (fun t k => XS.ifNo X162.her hx rfl (hb hby at_177) rfl ((if0 _ _).trans (teq ((lw_eq _ _).mpr (own_fin _ _ _ (by rw [own_nb2 p0 p1 p2 q3 q4 hc119 hc121]; decide)) : (lcmpW ((p0.toInt64 + (3 : Int32).toInt64) - 1) (own_t0_167 p0 p1 p2 q3 q4)) = (0 : Int32))).2) k) ?_
          refine own_st (f' := (mkF m 181 #[.val (.int p0), .val (.int p1), .val (.int p2), .val (.long q3), .second, .val (.long q4), .second, .val (.int (own_t0_3 p0 p1 p2 q3 q4)), .val (.int (own_t0_16 p0 p1 p2 q3 q4)), .val (.ref bm113), .val (.ref bm114), .val (.ref b115), .val (.ref b143), .val (.ref b160), .val (.long (own_t0_167 p0 p1 p2 q3 q4)), .second] [(.int (1 : Int32))])) (fun t k => XS.iconst X162.her hx rfl (hb hby at_180) k) ?_
          refine own_st (f' := (mkF m 185 #[.val (.int p0), .val (.int p1), .val (.int p2), .val (.long q3), .second, .val (.long q4), .second, .val (.int (own_t0_3 p0 p1 p2 q3 q4)), .val (.int (own_t0_16 p0 p1 p2 q3 q4)), .val (.ref bm113), .val (.ref bm114), .val (.ref b115), .val (.ref b143), .val (.ref b160), .val (.long (own_t0_167 p0 p1 p2 q3 q4)), .second] [(.int (1 : Int32))])) (fun t k => XS.goto X162.her hx rfl (pc0 := 181) (pc' := 185) rfl (hb hby at_181) (by decide) (by decide) k) ?_
          refine own_retN (t := .boolean) X162 hx hret hlk (by simp) (hb hby at_185) (by first | decide | omega) (by first | decide | omega) ?_
          exact congrArg (fun q => some (Value.int q)) (by decide)
    · refine own_st (f' := (mkF m 83 #[.val (.int p0), .val (.int p1), .val (.int p2), .val (.long q3), .second, .val (.long q4), .second, .val (.int (own_t0_3 p0 p1 p2 q3 q4)), .val (.int (own_t0_16 p0 p1 p2 q3 q4)), .val (.ref bm113), .val (.ref bm114), .val (.ref b115), .unset, .unset, .unset, .unset] [])) (fun t k => XS.icmpYes X118.her hx rfl (pc0 := 72) (pc' := 83) rfl (hb hby at_72) rfl (flt hc119).2.2.2 (by decide) (by decide) k) ?_
      refine own_st (f' := (mkF m 85 #[.val (.int p0), .val (.int p1), .val (.int p2), .val (.long q3), .second, .val (.long q4), .second, .val (.int (own_t0_3 p0 p1 p2 q3 q4)), .val (.int (own_t0_16 p0 p1 p2 q3 q4)), .val (.ref bm113), .val (.ref bm114), .val (.ref b115), .unset, .unset, .unset, .unset] [(.int (own_t0_3 p0 p1 p2 q3 q4))])) (fun t k => XS.iload X118.her hx rfl (hb hby at_83) rfl k) ?_
      refine own_st (f' := (mkF m 86 #[.val (.int p0), .val (.int p1), .val (.int p2), .val (.long q3), .second, .val (.long q4), .second, .val (.int (own_t0_3 p0 p1 p2 q3 q4)), .val (.int (own_t0_16 p0 p1 p2 q3 q4)), .val (.ref bm113), .val (.ref bm114), .val (.ref b115), .unset, .unset, .unset, .unset] [(.int (2 : Int32)), (.int (own_t0_3 p0 p1 p2 q3 q4))])) (fun t k => XS.iconst X118.her hx rfl (hb hby at_85) k) ?_
      refine own_st (f' := (mkF m 97 #[.val (.int p0), .val (.int p1), .val (.int p2), .val (.long q3), .second, .val (.long q4), .second, .val (.int (own_t0_3 p0 p1 p2 q3 q4)), .val (.int (own_t0_16 p0 p1 p2 q3 q4)), .val (.ref bm113), .val (.ref bm114), .val (.ref b115), .unset, .unset, .unset, .unset] [])) (fun t k => XS.icmpYes X118.her hx rfl (pc0 := 86) (pc' := 97) rfl (hb hby at_86) rfl (flt (own_nl (by decide) hc119 : ¬ ((2 : Int32) < (own_t0_3 p0 p1 p2 q3 q4)))).2.2.2 (by decide) (by decide) k) ?_
      refine own_newO X118 hx hZ hown (own_w23 hw) (own_w24 hw) (own_w25 hw) (hb hby at_97) (by decide) (by decide) ?_
      intro T163 h163 b163 g163 q163 X163 E163 A163 D163
      have lt_vd_b163 : vd < b163 := Nat.lt_of_lt_of_le B118_vd.lt (Nat.le_of_eq g163.symm)
      have ne_vd_b163 : vd ≠ b163 := Nat.ne_of_lt (Nat.lt_of_lt_of_le B118_vd.lt (Nat.le_of_eq g163.symm))
      have B163_vd := B118_vd.ext E163
      have lt_bg118_b163 : bg118 < b163 := Nat.lt_of_lt_of_le Bg118.lt (Nat.le_of_eq g163.symm)
      have ne_bg118_b163 : bg118 ≠ b163 := Nat.ne_of_lt (Nat.lt_of_lt_of_le Bg118.lt (Nat.le_of_eq g163.symm))
      have B163_bg118 := Bg118.ext E163
      have lt_bm113_b163 : bm113 < b163 := Nat.lt_of_lt_of_le A118_bm113.lt (Nat.le_of_eq g163.symm)
      have ne_bm113_b163 : bm113 ≠ b163 := Nat.ne_of_lt (Nat.lt_of_lt_of_le A118_bm113.lt (Nat.le_of_eq g163.symm))
      have A163_bm113 := A118_bm113.ext E163
      have lt_bm114_b163 : bm114 < b163 := Nat.lt_of_lt_of_le A118_bm114.lt (Nat.le_of_eq g163.symm)
      have ne_bm114_b163 : bm114 ≠ b163 := Nat.ne_of_lt (Nat.lt_of_lt_of_le A118_bm114.lt (Nat.le_of_eq g163.symm))
      have A163_bm114 := A118_bm114.ext E163
      have lt_b115_b163 : b115 < b163 := Nat.lt_of_lt_of_le Ea118.lt (Nat.le_of_eq g163.symm)
      have ne_b115_b163 : b115 ≠ b163 := Nat.ne_of_lt (Nat.lt_of_lt_of_le Ea118.lt (Nat.le_of_eq g163.symm))
      have A163_b115 := Ea118.ext E163
      have F163_bm113_cents := F118_bm113_cents.ext E163
      have F163_bm114_cents := F118_bm114_cents.ext E163
      have F163_b115_modCount := Fm118.ext E163
      have F163_b115_elementData := Fe118.ext E163
      have F163_b115_size := Fs118.ext E163
      have S163_DEFAULTCAPACITY_EMPTY_ELEMENTDATA := Sk118.ext E163
      have ga_b163 : n0 ≤ b163 := Nat.le_trans Z0 q163
      have Zn163 : n0 ≤ h163.size := Nat.le_trans Zn118 E163.1
      have F163_modCount : Fld Z h163 b163 "java/util/AbstractList" "modCount" "I" (.int (0 : Int32)) := D163 (Or.inl (own_w43 hw)) (ty := .int) (by decide)
      have F163_elementData : Fld Z h163 b163 "java/util/ArrayList" "elementData" "[Ljava/lang/Object;" .null := D163 (Or.inl (own_w46 hw)) (ty := (.array (.object "java/lang/Object"))) (by decide)
      have F163_size : Fld Z h163 b163 "java/util/ArrayList" "size" "I" (.int (0 : Int32)) := D163 (Or.inl (own_w55 hw)) (ty := .int) (by decide)
      refine own_st (f' := (mkF m 101 #[.val (.int p0), .val (.int p1), .val (.int p2), .val (.long q3), .second, .val (.long q4), .second, .val (.int (own_t0_3 p0 p1 p2 q3 q4)), .val (.int (own_t0_16 p0 p1 p2 q3 q4)), .val (.ref bm113), .val (.ref bm114), .val (.ref b115), .unset, .unset, .unset, .unset] [(.ref b163), (.ref b163)])) (fun t k => XS.dup X163.her hx rfl (hb hby at_100) rfl rfl k) ?_
      refine own_callC (y := (⟨"java/util/ArrayList", "<init>", "()V"⟩ : MethodName)) (W := 1) [] X163 hx hZ hown rfl (own_w26 hw) (own_w27 hw) (own_w25 hw) (own_w28 hw) (by decide) (own_c6 l Z a0 hw h163 n0 Zn163 b163 vd A163 F163_size F163_elementData F163_modCount ga_b163 S163_DEFAULTCAPACITY_EMPTY_ELEMENTDATA) (allS (Or.inr q163) all0) (by decide) (by decide) (by decide) (by decide) (by rw [hml]; rfl) own_pd1 rfl rfl (Nat.le_of_eq rfl) (hb hby at_101) ?_
      rintro v164 T164 h164 X164 K164 ⟨rfl, Ea164, Fs164, Fe164, Fm164⟩
      have B164_vd := B163_vd.keep K164 (ninS ne_vd_b163 nin0)
      have B164_bg118 := B163_bg118.keep K164 (ninS ne_bg118_b163 nin0)
      have F164_bm113_cents := F163_bm113_cents.keep K164 (ninS ne_bm113_b163 nin0)
      have F164_bm114_cents := F163_bm114_cents.keep K164 (ninS ne_bm114_b163 nin0)
      have F164_b115_modCount := F163_b115_modCount.keep K164 (ninS ne_b115_b163 nin0)
      have F164_b115_elementData := F163_b115_elementData.keep K164 (ninS ne_b115_b163 nin0)
      have F164_b115_size := F163_b115_size.keep K164 (ninS ne_b115_b163 nin0)
      have A164_bm113 := A163_bm113.keep K164
      have A164_bm114 := A163_bm114.keep K164
      have A164_b115 := A163_b115.keep K164
      have A164_b163 := A163.keep K164
      have Zn164 : n0 ≤ h164.size := Nat.le_trans Zn163 K164.1
      have Sk164 := own_Sta_keep S163_DEFAULTCAPACITY_EMPTY_ELEMENTDATA K164 (allS (own_exa_ns A163) all0)
      show own_G p e below _ T164 (mkF m 104 #[.val (.int p0), .val (.int p1), .val (.int p2), .val (.long q3), .second, .val (.long q4), .second, .val (.int (own_t0_3 p0 p1 p2 q3 q4)), .val (.int (own_t0_16 p0 p1 p2 q3 q4)), .val (.ref bm113), .val (.ref bm114), .val (.ref b115), .unset, .unset, .unset, .unset] [(.ref b163)])
      refine own_st (f' := (mkF m 106 #[.val (.int p0), .val (.int p1), .val (.int p2), .val (.long q3), .second, .val (.long q4), .second, .val (.int (own_t0_3 p0 p1 p2 q3 q4)), .val (.int (own_t0_16 p0 p1 p2 q3 q4)), .val (.ref bm113), .val (.ref bm114), .val (.ref b115), .val (.ref b163), .unset, .unset, .unset] [])) (fun t k => XS.astore X164.her hx rfl (hb hby at_104) rfl rfl (l' := #[.val (.int p0), .val (.int p1), .val (.int p2), .val (.long q3), .second, .val (.long q4), .second, .val (.int (own_t0_3 p0 p1 p2 q3 q4)), .val (.int (own_t0_16 p0 p1 p2 q3 q4)), .val (.ref bm113), .val (.ref bm114), .val (.ref b115), .val (.ref b163), .unset, .unset, .unset]) rfl k) ?_
      refine own_st (f' := (mkF m 108 #[.val (.int p0), .val (.int p1), .val (.int p2), .val (.long q3), .second, .val (.long q4), .second, .val (.int (own_t0_3 p0 p1 p2 q3 q4)), .val (.int (own_t0_16 p0 p1 p2 q3 q4)), .val (.ref bm113), .val (.ref bm114), .val (.ref b115), .val (.ref b163), .unset, .unset, .unset] [(.int (own_t0_16 p0 p1 p2 q3 q4))])) (fun t k => XS.iload X164.her hx rfl (hb hby at_106) rfl k) ?_
      by_cases hc165 : (0 : Int32) < (own_t0_16 p0 p1 p2 q3 q4)
      · refine own_st (f' := (mkF m 111 #[.val (.int p0), .val (.int p1), .val (.int p2), .val (.long q3), .second, .val (.long q4), .second, .val (.int (own_t0_3 p0 p1 p2 q3 q4)), .val (.int (own_t0_16 p0 p1 p2 q3 q4)), .val (.ref bm113), .val (.ref bm114), .val (.ref b115), .val (.ref b163), .unset, .unset, .unset] [])) (fun t k => XS.ifNo X164.her hx rfl (hb hby at_108) rfl ((if0 _ _).trans (tlt hc165).2.2.2) k) ?_
        refine own_st (f' := (mkF m 113 #[.val (.int p0), .val (.int p1), .val (.int p2), .val (.long q3), .second, .val (.long q4), .second, .val (.int (own_t0_3 p0 p1 p2 q3 q4)), .val (.int (own_t0_16 p0 p1 p2 q3 q4)), .val (.ref bm113), .val (.ref bm114), .val (.ref b115), .val (.ref b163), .unset, .unset, .unset] [(.ref b163)])) (fun t k => XS.aload X164.her hx rfl (hb hby at_111) rfl rfl k) ?_
        refine own_st (f' := (mkF m 115 #[.val (.int p0), .val (.int p1), .val (.int p2), .val (.long q3), .second, .val (.long q4), .second, .val (.int (own_t0_3 p0 p1 p2 q3 q4)), .val (.int (own_t0_16 p0 p1 p2 q3 q4)), .val (.ref bm113), .val (.ref bm114), .val (.ref b115), .val (.ref b163), .unset, .unset, .unset] [(.ref bm114), (.ref b163)])) (fun t k => XS.aload X164.her hx rfl (hb hby at_113) rfl rfl k) ?_
        refine own_callV (y := (⟨"java/util/ArrayList", "add", "(Ljava/lang/Object;)Z"⟩ : MethodName)) (W := 0) [(.ref bm114)] X164 hx hZ hown (own_w47 hw) (own_w48 hw) (own_w50 hw) (own_w49 hw) (own_w25 hw) (own_w51 hw) (by decide) Ea164 (own_add0 l Z a0 hw h164 n0 Zn164 b163 bm114 vd Ea164 Fs164 Fe164 Fm164 A164_bm114 B164_vd Sk164 ga_b163 ne_vd_b163) (allS (Or.inr q163) all0) (by decide) (by decide) (by decide) (by decide) (by rw [hml]; rfl) own_pd5 rfl rfl (Nat.le_of_eq rfl) (hb hby at_115) ?_
        rintro v166 T166 h166 X166 K166 ⟨rfl, bg166, qg166, Ea166, Fs166, Fe166, Fm166, Bg166⟩
        have B166_vd := B164_vd.keep K166 (ninS ne_vd_b163 nin0)
        have B166_bg118 := B164_bg118.keep K166 (ninS ne_bg118_b163 nin0)
        have F166_bm113_cents := F164_bm113_cents.keep K166 (ninS ne_bm113_b163 nin0)
        have F166_bm114_cents := F164_bm114_cents.keep K166 (ninS ne_bm114_b163 nin0)
        have F166_b115_modCount := F164_b115_modCount.keep K166 (ninS ne_b115_b163 nin0)
        have F166_b115_elementData := F164_b115_elementData.keep K166 (ninS ne_b115_b163 nin0)
        have F166_b115_size := F164_b115_size.keep K166 (ninS ne_b115_b163 nin0)
        have A166_bm113 := A164_bm113.keep K166
        have A166_bm114 := A164_bm114.keep K166
        have A166_b115 := A164_b115.keep K166
        have A166_b163 := Ea164.keep K166
        have Zn166 : n0 ≤ h166.size := Nat.le_trans Zn164 K166.1
        have ga_bg166 : n0 ≤ bg166 := Nat.le_trans Zn164 qg166
        have qa_bg166 : h0.size ≤ bg166 := Nat.le_trans X164.2.2.1 qg166
        have Sk166 := own_Sta_keep Sk164 K166 (allS (own_exa_ns Ea164) all0)
        have ne_bm113_bg166 : bm113 ≠ bg166 := Nat.ne_of_lt (Nat.lt_of_lt_of_le A164_bm113.lt qg166)
        have ne_bm114_bg166 : bm114 ≠ bg166 := Nat.ne_of_lt (Nat.lt_of_lt_of_le A164_bm114.lt qg166)
        have ne_b115_bg166 : b115 ≠ bg166 := Nat.ne_of_lt (Nat.lt_of_lt_of_le A164_b115.lt qg166)
        have ne_b163_bg166 : b163 ≠ bg166 := Nat.ne_of_lt (Nat.lt_of_lt_of_le Ea164.lt qg166)
        have ne_vd_bg166 : vd ≠ bg166 := Nat.ne_of_lt (Nat.lt_of_lt_of_le B164_vd.lt qg166)
        have ne_bg118_bg166 : bg118 ≠ bg166 := Nat.ne_of_lt (Nat.lt_of_lt_of_le B164_bg118.lt qg166)
        show own_G p e below _ T166 (mkF m 118 #[.val (.int p0), .val (.int p1), .val (.int p2), .val (.long q3), .second, .val (.long q4), .second, .val (.int (own_t0_3 p0 p1 p2 q3 q4)), .val (.int (own_t0_16 p0 p1 p2 q3 q4)), .val (.ref bm113), .val (.ref bm114), .val (.ref b115), .val (.ref b163), .unset, .unset, .unset] [(.int (1 : Int32))])
        refine own_st (f' := (mkF m 119 #[.val (.int p0), .val (.int p1), .val (.int p2), .val (.long q3), .second, .val (.long q4), .second, .val (.int (own_t0_3 p0 p1 p2 q3 q4)), .val (.int (own_t0_16 p0 p1 p2 q3 q4)), .val (.ref bm113), .val (.ref bm114), .val (.ref b115), .val (.ref b163), .unset, .unset, .unset] [])) (fun t k => XS.pop X166.her hx rfl (hb hby at_118) rfl rfl k) ?_
        refine own_st (f' := (mkF m 121 #[.val (.int p0), .val (.int p1), .val (.int p2), .val (.long q3), .second, .val (.long q4), .second, .val (.int (own_t0_3 p0 p1 p2 q3 q4)), .val (.int (own_t0_16 p0 p1 p2 q3 q4)), .val (.ref bm113), .val (.ref bm114), .val (.ref b115), .val (.ref b163), .unset, .unset, .unset] [(.int (own_t0_16 p0 p1 p2 q3 q4))])) (fun t k => XS.iload X166.her hx rfl (hb hby at_119) rfl k) ?_
        refine own_st (f' := (mkF m 122 #[.val (.int p0), .val (.int p1), .val (.int p2), .val (.long q3), .second, .val (.long q4), .second, .val (.int (own_t0_3 p0 p1 p2 q3 q4)), .val (.int (own_t0_16 p0 p1 p2 q3 q4)), .val (.ref bm113), .val (.ref bm114), .val (.ref b115), .val (.ref b163), .unset, .unset, .unset] [(.int (1 : Int32)), (.int (own_t0_16 p0 p1 p2 q3 q4))])) (fun t k => XS.iconst X166.her hx rfl (hb hby at_121) k) ?_
        by_cases hc167 : (1 : Int32) < (own_t0_16 p0 p1 p2 q3 q4)
        · refine own_st (f' := (mkF m 125 #[.val (.int p0), .val (.int p1), .val (.int p2), .val (.long q3), .second, .val (.long q4), .second, .val (.int (own_t0_3 p0 p1 p2 q3 q4)), .val (.int (own_t0_16 p0 p1 p2 q3 q4)), .val (.ref bm113), .val (.ref bm114), .val (.ref b115), .val (.ref b163), .unset, .unset, .unset] [])) (fun t k => XS.icmpNo X166.her hx rfl (hb hby at_122) rfl (tlt hc167).2.2.2 k) ?_
          refine own_st (f' := (mkF m 127 #[.val (.int p0), .val (.int p1), .val (.int p2), .val (.long q3), .second, .val (.long q4), .second, .val (.int (own_t0_3 p0 p1 p2 q3 q4)), .val (.int (own_t0_16 p0 p1 p2 q3 q4)), .val (.ref bm113), .val (.ref bm114), .val (.ref b115), .val (.ref b163), .unset, .unset, .unset] [(.ref b163)])) (fun t k => XS.aload X166.her hx rfl (hb hby at_125) rfl rfl k) ?_
          refine own_st (f' := (mkF m 129 #[.val (.int p0), .val (.int p1), .val (.int p2), .val (.long q3), .second, .val (.long q4), .second, .val (.int (own_t0_3 p0 p1 p2 q3 q4)), .val (.int (own_t0_16 p0 p1 p2 q3 q4)), .val (.ref bm113), .val (.ref bm114), .val (.ref b115), .val (.ref b163), .unset, .unset, .unset] [(.ref bm113), (.ref b163)])) (fun t k => XS.aload X166.her hx rfl (hb hby at_127) rfl rfl k) ?_
          refine own_callV (y := (⟨"java/util/ArrayList", "add", "(Ljava/lang/Object;)Z"⟩ : MethodName)) (W := 0) [(.ref bm113)] X166 hx hZ hown (own_w47 hw) (own_w48 hw) (own_w50 hw) (own_w49 hw) (own_w25 hw) (own_w51 hw) (by decide) Ea166 (own_add1 l Z a0 hw h166 n0 Zn166 b163 bm113 bg166 bm114 Ea166 Fs166 Fe166 Fm166 A166_bm113 Bg166 ga_b163 ga_bg166 ne_b163_bg166) (allS (Or.inr q163) (allS (Or.inr qa_bg166) all0)) (by decide) (by decide) (by decide) (by decide) (by rw [hml]; rfl) own_pd5 rfl rfl (Nat.le_of_eq rfl) (hb hby at_129) ?_
          rintro v168 T168 h168 X168 K168 ⟨rfl, Ea168, Fs168, Fe168, Fm168, Bg168⟩
          have B168_vd := B166_vd.keep K168 (ninS ne_vd_b163 (ninS ne_vd_bg166 nin0))
          have B168_bg118 := B166_bg118.keep K168 (ninS ne_bg118_b163 (ninS ne_bg118_bg166 nin0))
          have F168_bm113_cents := F166_bm113_cents.keep K168 (ninS ne_bm113_b163 (ninS ne_bm113_bg166 nin0))
          have F168_bm114_cents := F166_bm114_cents.keep K168 (ninS ne_bm114_b163 (ninS ne_bm114_bg166 nin0))
          have F168_b115_modCount := F166_b115_modCount.keep K168 (ninS ne_b115_b163 (ninS ne_b115_bg166 nin0))
          have F168_b115_elementData := F166_b115_elementData.keep K168 (ninS ne_b115_b163 (ninS ne_b115_bg166 nin0))
          have F168_b115_size := F166_b115_size.keep K168 (ninS ne_b115_b163 (ninS ne_b115_bg166 nin0))
          have A168_bm113 := A166_bm113.keep K168
          have A168_bm114 := A166_bm114.keep K168
          have A168_b115 := A166_b115.keep K168
          have A168_b163 := Ea166.keep K168
          have Zn168 : n0 ≤ h168.size := Nat.le_trans Zn166 K168.1
          have Sk168 := own_Sta_keep Sk166 K168 (allS (own_exa_ns Ea166) (allS (own_ra_ns Bg166) all0))
          show own_G p e below _ T168 (mkF m 132 #[.val (.int p0), .val (.int p1), .val (.int p2), .val (.long q3), .second, .val (.long q4), .second, .val (.int (own_t0_3 p0 p1 p2 q3 q4)), .val (.int (own_t0_16 p0 p1 p2 q3 q4)), .val (.ref bm113), .val (.ref bm114), .val (.ref b115), .val (.ref b163), .unset, .unset, .unset] [(.int (1 : Int32))])
          refine own_st (f' := (mkF m 133 #[.val (.int p0), .val (.int p1), .val (.int p2), .val (.long q3), .second, .val (.long q4), .second, .val (.int (own_t0_3 p0 p1 p2 q3 q4)), .val (.int (own_t0_16 p0 p1 p2 q3 q4)), .val (.ref bm113), .val (.ref bm114), .val (.ref b115), .val (.ref b163), .unset, .unset, .unset] [])) (fun t k => XS.pop X168.her hx rfl (hb hby at_132) rfl rfl k) ?_
          refine own_st (f' := (mkF m 135 #[.val (.int p0), .val (.int p1), .val (.int p2), .val (.long q3), .second, .val (.long q4), .second, .val (.int (own_t0_3 p0 p1 p2 q3 q4)), .val (.int (own_t0_16 p0 p1 p2 q3 q4)), .val (.ref bm113), .val (.ref bm114), .val (.ref b115), .val (.ref b163), .unset, .unset, .unset] [(.int (own_t0_16 p0 p1 p2 q3 q4))])) (fun t k => XS.iload X168.her hx rfl (hb hby at_133) rfl k) ?_
          refine own_st (f' := (mkF m 136 #[.val (.int p0), .val (.int p1), .val (.int p2), .val (.long q3), .second, .val (.long q4), .second, .val (.int (own_t0_3 p0 p1 p2 q3 q4)), .val (.int (own_t0_16 p0 p1 p2 q3 q4)), .val (.ref bm113), .val (.ref bm114), .val (.ref b115), .val (.ref b163), .unset, .unset, .unset] [(.int (2 : Int32)), (.int (own_t0_16 p0 p1 p2 q3 q4))])) (fun t k => XS.iconst X168.her hx rfl (hb hby at_135) k) ?_
          by_cases hc169 : (2 : Int32) < (own_t0_16 p0 p1 p2 q3 q4)
          · refine own_st (f' := (mkF m 139 #[.val (.int p0), .val (.int p1), .val (.int p2), .val (.long q3), .second, .val (.long q4), .second, .val (.int (own_t0_3 p0 p1 p2 q3 q4)), .val (.int (own_t0_16 p0 p1 p2 q3 q4)), .val (.ref bm113), .val (.ref bm114), .val (.ref b115), .val (.ref b163), .unset, .unset, .unset] [])) (fun t k => XS.icmpNo X168.her hx rfl (hb hby at_136) rfl (tlt hc169).2.2.2 k) ?_
            refine own_st (f' := (mkF m 141 #[.val (.int p0), .val (.int p1), .val (.int p2), .val (.long q3), .second, .val (.long q4), .second, .val (.int (own_t0_3 p0 p1 p2 q3 q4)), .val (.int (own_t0_16 p0 p1 p2 q3 q4)), .val (.ref bm113), .val (.ref bm114), .val (.ref b115), .val (.ref b163), .unset, .unset, .unset] [(.ref b163)])) (fun t k => XS.aload X168.her hx rfl (hb hby at_139) rfl rfl k) ?_
            refine own_st (f' := (mkF m 143 #[.val (.int p0), .val (.int p1), .val (.int p2), .val (.long q3), .second, .val (.long q4), .second, .val (.int (own_t0_3 p0 p1 p2 q3 q4)), .val (.int (own_t0_16 p0 p1 p2 q3 q4)), .val (.ref bm113), .val (.ref bm114), .val (.ref b115), .val (.ref b163), .unset, .unset, .unset] [(.ref bm114), (.ref b163)])) (fun t k => XS.aload X168.her hx rfl (hb hby at_141) rfl rfl k) ?_
            refine own_callV (y := (⟨"java/util/ArrayList", "add", "(Ljava/lang/Object;)Z"⟩ : MethodName)) (W := 0) [(.ref bm114)] X168 hx hZ hown (own_w47 hw) (own_w48 hw) (own_w50 hw) (own_w49 hw) (own_w25 hw) (own_w51 hw) (by decide) Ea168 (own_add2 l Z a0 hw h168 n0 Zn168 b163 bm114 bg166 bm114 bm113 Ea168 Fs168 Fe168 Fm168 A168_bm114 Bg168 ga_b163 ga_bg166 ne_b163_bg166) (allS (Or.inr q163) (allS (Or.inr qa_bg166) all0)) (by decide) (by decide) (by decide) (by decide) (by rw [hml]; rfl) own_pd5 rfl rfl (Nat.le_of_eq rfl) (hb hby at_143) ?_
            rintro v170 T170 h170 X170 K170 ⟨rfl, Ea170, Fs170, Fe170, Fm170, Bg170⟩
            have B170_vd := B168_vd.keep K170 (ninS ne_vd_b163 (ninS ne_vd_bg166 nin0))
            have B170_bg118 := B168_bg118.keep K170 (ninS ne_bg118_b163 (ninS ne_bg118_bg166 nin0))
            have F170_bm113_cents := F168_bm113_cents.keep K170 (ninS ne_bm113_b163 (ninS ne_bm113_bg166 nin0))
            have F170_bm114_cents := F168_bm114_cents.keep K170 (ninS ne_bm114_b163 (ninS ne_bm114_bg166 nin0))
            have F170_b115_modCount := F168_b115_modCount.keep K170 (ninS ne_b115_b163 (ninS ne_b115_bg166 nin0))
            have F170_b115_elementData := F168_b115_elementData.keep K170 (ninS ne_b115_b163 (ninS ne_b115_bg166 nin0))
            have F170_b115_size := F168_b115_size.keep K170 (ninS ne_b115_b163 (ninS ne_b115_bg166 nin0))
            have A170_bm113 := A168_bm113.keep K170
            have A170_bm114 := A168_bm114.keep K170
            have A170_b115 := A168_b115.keep K170
            have A170_b163 := Ea168.keep K170
            have Zn170 : n0 ≤ h170.size := Nat.le_trans Zn168 K170.1
            have Sk170 := own_Sta_keep Sk168 K170 (allS (own_exa_ns Ea168) (allS (own_ra_ns Bg168) all0))
            show own_G p e below _ T170 (mkF m 146 #[.val (.int p0), .val (.int p1), .val (.int p2), .val (.long q3), .second, .val (.long q4), .second, .val (.int (own_t0_3 p0 p1 p2 q3 q4)), .val (.int (own_t0_16 p0 p1 p2 q3 q4)), .val (.ref bm113), .val (.ref bm114), .val (.ref b115), .val (.ref b163), .unset, .unset, .unset] [(.int (1 : Int32))])
            refine own_st (f' := (mkF m 147 #[.val (.int p0), .val (.int p1), .val (.int p2), .val (.long q3), .second, .val (.long q4), .second, .val (.int (own_t0_3 p0 p1 p2 q3 q4)), .val (.int (own_t0_16 p0 p1 p2 q3 q4)), .val (.ref bm113), .val (.ref bm114), .val (.ref b115), .val (.ref b163), .unset, .unset, .unset] [])) (fun t k => XS.pop X170.her hx rfl (hb hby at_146) rfl rfl k) ?_
            refine own_newO X170 hx hZ hown (own_w75 hw) (own_w76 hw) (own_w77 hw) (hb hby at_147) (by decide) (by decide) ?_
            intro T171 h171 b171 g171 q171 X171 E171 A171 D171
            have lt_vd_b171 : vd < b171 := Nat.lt_of_lt_of_le B170_vd.lt (Nat.le_of_eq g171.symm)
            have ne_vd_b171 : vd ≠ b171 := Nat.ne_of_lt (Nat.lt_of_lt_of_le B170_vd.lt (Nat.le_of_eq g171.symm))
            have B171_vd := B170_vd.ext E171
            have lt_bg118_b171 : bg118 < b171 := Nat.lt_of_lt_of_le B170_bg118.lt (Nat.le_of_eq g171.symm)
            have ne_bg118_b171 : bg118 ≠ b171 := Nat.ne_of_lt (Nat.lt_of_lt_of_le B170_bg118.lt (Nat.le_of_eq g171.symm))
            have B171_bg118 := B170_bg118.ext E171
            have lt_bg166_b171 : bg166 < b171 := Nat.lt_of_lt_of_le Bg170.lt (Nat.le_of_eq g171.symm)
            have ne_bg166_b171 : bg166 ≠ b171 := Nat.ne_of_lt (Nat.lt_of_lt_of_le Bg170.lt (Nat.le_of_eq g171.symm))
            have B171_bg166 := Bg170.ext E171
            have lt_bm113_b171 : bm113 < b171 := Nat.lt_of_lt_of_le A170_bm113.lt (Nat.le_of_eq g171.symm)
            have ne_bm113_b171 : bm113 ≠ b171 := Nat.ne_of_lt (Nat.lt_of_lt_of_le A170_bm113.lt (Nat.le_of_eq g171.symm))
            have A171_bm113 := A170_bm113.ext E171
            have lt_bm114_b171 : bm114 < b171 := Nat.lt_of_lt_of_le A170_bm114.lt (Nat.le_of_eq g171.symm)
            have ne_bm114_b171 : bm114 ≠ b171 := Nat.ne_of_lt (Nat.lt_of_lt_of_le A170_bm114.lt (Nat.le_of_eq g171.symm))
            have A171_bm114 := A170_bm114.ext E171
            have lt_b115_b171 : b115 < b171 := Nat.lt_of_lt_of_le A170_b115.lt (Nat.le_of_eq g171.symm)
            have ne_b115_b171 : b115 ≠ b171 := Nat.ne_of_lt (Nat.lt_of_lt_of_le A170_b115.lt (Nat.le_of_eq g171.symm))
            have A171_b115 := A170_b115.ext E171
            have lt_b163_b171 : b163 < b171 := Nat.lt_of_lt_of_le Ea170.lt (Nat.le_of_eq g171.symm)
            have ne_b163_b171 : b163 ≠ b171 := Nat.ne_of_lt (Nat.lt_of_lt_of_le Ea170.lt (Nat.le_of_eq g171.symm))
            have A171_b163 := Ea170.ext E171
            have F171_bm113_cents := F170_bm113_cents.ext E171
            have F171_bm114_cents := F170_bm114_cents.ext E171
            have F171_b115_modCount := F170_b115_modCount.ext E171
            have F171_b115_elementData := F170_b115_elementData.ext E171
            have F171_b115_size := F170_b115_size.ext E171
            have F171_b163_modCount := Fm170.ext E171
            have F171_b163_elementData := Fe170.ext E171
            have F171_b163_size := Fs170.ext E171
            have S171_DEFAULTCAPACITY_EMPTY_ELEMENTDATA := Sk170.ext E171
            have ga_b171 : n0 ≤ b171 := Nat.le_trans Z0 q171
            have Zn171 : n0 ≤ h171.size := Nat.le_trans Zn170 E171.1
            have F171_held : Fld Z h171 b171 "com/example/bidwright/bidwright/allocation/Supply" "held" "I" (.int (0 : Int32)) := D171 (Or.inr (own_w83 hw)) (ty := .int) (by decide)
            have F171_costs : Fld Z h171 b171 "com/example/bidwright/bidwright/allocation/Supply" "costs" "[J" .null := D171 (Or.inr (own_w129 hw)) (ty := (.array .long)) (by decide)
            have F171_revenues : Fld Z h171 b171 "com/example/bidwright/bidwright/allocation/Supply" "revenues" "[J" .null := D171 (Or.inr (own_w131 hw)) (ty := (.array .long)) (by decide)
            refine own_st (f' := (mkF m 151 #[.val (.int p0), .val (.int p1), .val (.int p2), .val (.long q3), .second, .val (.long q4), .second, .val (.int (own_t0_3 p0 p1 p2 q3 q4)), .val (.int (own_t0_16 p0 p1 p2 q3 q4)), .val (.ref bm113), .val (.ref bm114), .val (.ref b115), .val (.ref b163), .unset, .unset, .unset] [(.ref b171), (.ref b171)])) (fun t k => XS.dup X171.her hx rfl (hb hby at_150) rfl rfl k) ?_
            refine own_st (f' := (mkF m 152 #[.val (.int p0), .val (.int p1), .val (.int p2), .val (.long q3), .second, .val (.long q4), .second, .val (.int (own_t0_3 p0 p1 p2 q3 q4)), .val (.int (own_t0_16 p0 p1 p2 q3 q4)), .val (.ref bm113), .val (.ref bm114), .val (.ref b115), .val (.ref b163), .unset, .unset, .unset] [(.int p0), (.ref b171), (.ref b171)])) (fun t k => XS.iloadN X171.her hx rfl (hb hby at_151) rfl k) ?_
            refine own_st (f' := (mkF m 154 #[.val (.int p0), .val (.int p1), .val (.int p2), .val (.long q3), .second, .val (.long q4), .second, .val (.int (own_t0_3 p0 p1 p2 q3 q4)), .val (.int (own_t0_16 p0 p1 p2 q3 q4)), .val (.ref bm113), .val (.ref bm114), .val (.ref b115), .val (.ref b163), .unset, .unset, .unset] [(.ref b115), (.int p0), (.ref b171), (.ref b171)])) (fun t k => XS.aload X171.her hx rfl (hb hby at_152) rfl rfl k) ?_
            refine own_st (f' := (mkF m 156 #[.val (.int p0), .val (.int p1), .val (.int p2), .val (.long q3), .second, .val (.long q4), .second, .val (.int (own_t0_3 p0 p1 p2 q3 q4)), .val (.int (own_t0_16 p0 p1 p2 q3 q4)), .val (.ref bm113), .val (.ref bm114), .val (.ref b115), .val (.ref b163), .unset, .unset, .unset] [(.ref b163), (.ref b115), (.int p0), (.ref b171), (.ref b171)])) (fun t k => XS.aload X171.her hx rfl (hb hby at_154) rfl rfl k) ?_
            have LS172_2 : own_LS Z h171 b171 b115 [(bm113, (own_t0_27 p0 p1 p2 q3 q4))] := ⟨lt_b115_b171, A171_b115, F171_b115_size, (Or.inr ⟨bg118, lt_bg118_b171, F171_b115_elementData, B171_bg118⟩), (own_qS ⟨lt_bm113_b171, A171_bm113, F171_bm113_cents, own_am27 p0 p1 p2 q3 q4⟩ own_q0)⟩
            have LS172_3 : own_LS Z h171 b171 b163 [(bm114, (own_t0_42 p0 p1 p2 q3 q4)), (bm113, (own_t0_27 p0 p1 p2 q3 q4)), (bm114, (own_t0_42 p0 p1 p2 q3 q4))] := ⟨lt_b163_b171, A171_b163, F171_b163_size, (Or.inr ⟨bg166, lt_bg166_b171, F171_b163_elementData, B171_bg166⟩), (own_qS ⟨lt_bm114_b171, A171_bm114, F171_bm114_cents, own_am42 p0 p1 p2 q3 q4⟩ (own_qS ⟨lt_bm113_b171, A171_bm113, F171_bm113_cents, own_am27 p0 p1 p2 q3 q4⟩ (own_qS ⟨lt_bm114_b171, A171_bm114, F171_bm114_cents, own_am42 p0 p1 p2 q3 q4⟩ own_q0)))⟩
            refine own_callC (y := (⟨"com/example/bidwright/bidwright/allocation/Supply", "<init>", "(ILjava/util/List;Ljava/util/List;)V"⟩ : MethodName)) (W := 1) [(.int p0), (.ref b115), (.ref b163)] X171 hx hZ hown rfl (own_w78 hw) (own_w79 hw) (own_w77 hw) (own_w80 hw) (by decide) (own_c13 l Z a0 hw h171 n0 Zn171 b171 p0 b115 b163 b171 _ _ A171 F171_held F171_costs F171_revenues ga_b171 (Nat.le_refl _) LS172_2 LS172_3 (by show 1 ≤ 3; decide) (by show 3 ≤ 3; decide)) (allS (Or.inr q171) all0) (by decide) (by decide) (by decide) (by decide) (by rw [hml]; rfl) own_pd14 rfl rfl (Nat.le_of_eq rfl) (hb hby at_156) ?_
            rintro v172 T172 h172 X172 K172 ⟨rfl, Ax172, Fh172, bt172, La172, Fc172, Bt172, hl172⟩
            have B172_vd := B171_vd.keep K172 (ninS ne_vd_b171 nin0)
            have B172_bg118 := B171_bg118.keep K172 (ninS ne_bg118_b171 nin0)
            have B172_bg166 := B171_bg166.keep K172 (ninS ne_bg166_b171 nin0)
            have F172_bm113_cents := F171_bm113_cents.keep K172 (ninS ne_bm113_b171 nin0)
            have F172_bm114_cents := F171_bm114_cents.keep K172 (ninS ne_bm114_b171 nin0)
            have F172_b115_modCount := F171_b115_modCount.keep K172 (ninS ne_b115_b171 nin0)
            have F172_b115_elementData := F171_b115_elementData.keep K172 (ninS ne_b115_b171 nin0)
            have F172_b115_size := F171_b115_size.keep K172 (ninS ne_b115_b171 nin0)
            have F172_b163_modCount := F171_b163_modCount.keep K172 (ninS ne_b163_b171 nin0)
            have F172_b163_elementData := F171_b163_elementData.keep K172 (ninS ne_b163_b171 nin0)
            have F172_b163_size := F171_b163_size.keep K172 (ninS ne_b163_b171 nin0)
            have A172_bm113 := A171_bm113.keep K172
            have A172_bm114 := A171_bm114.keep K172
            have A172_b115 := A171_b115.keep K172
            have A172_b163 := A171_b163.keep K172
            have A172_b171 := A171.keep K172
            have Zn172 : n0 ≤ h172.size := Nat.le_trans Zn171 K172.1
            show own_G p e below _ T172 (mkF m 159 #[.val (.int p0), .val (.int p1), .val (.int p2), .val (.long q3), .second, .val (.long q4), .second, .val (.int (own_t0_3 p0 p1 p2 q3 q4)), .val (.int (own_t0_16 p0 p1 p2 q3 q4)), .val (.ref bm113), .val (.ref bm114), .val (.ref b115), .val (.ref b163), .unset, .unset, .unset] [(.ref b171)])
            refine own_st (f' := (mkF m 161 #[.val (.int p0), .val (.int p1), .val (.int p2), .val (.long q3), .second, .val (.long q4), .second, .val (.int (own_t0_3 p0 p1 p2 q3 q4)), .val (.int (own_t0_16 p0 p1 p2 q3 q4)), .val (.ref bm113), .val (.ref bm114), .val (.ref b115), .val (.ref b163), .val (.ref b171), .unset, .unset] [])) (fun t k => XS.astore X172.her hx rfl (hb hby at_159) rfl rfl (l' := #[.val (.int p0), .val (.int p1), .val (.int p2), .val (.long q3), .second, .val (.long q4), .second, .val (.int (own_t0_3 p0 p1 p2 q3 q4)), .val (.int (own_t0_16 p0 p1 p2 q3 q4)), .val (.ref bm113), .val (.ref bm114), .val (.ref b115), .val (.ref b163), .val (.ref b171), .unset, .unset]) rfl k) ?_
            refine own_st (f' := (mkF m 162 #[.val (.int p0), .val (.int p1), .val (.int p2), .val (.long q3), .second, .val (.long q4), .second, .val (.int (own_t0_3 p0 p1 p2 q3 q4)), .val (.int (own_t0_16 p0 p1 p2 q3 q4)), .val (.ref bm113), .val (.ref bm114), .val (.ref b115), .val (.ref b163), .val (.ref b171), .unset, .unset] [(.int p0)])) (fun t k => XS.iloadN X172.her hx rfl (hb hby at_161) rfl k) ?_
            refine own_st (f' := (mkF m 163 #[.val (.int p0), .val (.int p1), .val (.int p2), .val (.long q3), .second, .val (.long q4), .second, .val (.int (own_t0_3 p0 p1 p2 q3 q4)), .val (.int (own_t0_16 p0 p1 p2 q3 q4)), .val (.ref bm113), .val (.ref bm114), .val (.ref b115), .val (.ref b163), .val (.ref b171), .unset, .unset] [(.long (p0.toInt64))])) (fun t k => XS.i2l X172.her hx rfl (hb hby at_162) rfl k) ?_
            refine own_st (f' := (mkF m 165 #[.val (.int p0), .val (.int p1), .val (.int p2), .val (.long q3), .second, .val (.long q4), .second, .val (.int (own_t0_3 p0 p1 p2 q3 q4)), .val (.int (own_t0_16 p0 p1 p2 q3 q4)), .val (.ref bm113), .val (.ref bm114), .val (.ref b115), .val (.ref b163), .val (.ref b171), .unset, .unset] [(.int (own_t0_3 p0 p1 p2 q3 q4)), (.long (p0.toInt64))])) (fun t k => XS.iload X172.her hx rfl (hb hby at_163) rfl k) ?_
            refine own_st (f' := (mkF m 166 #[.val (.int p0), .val (.int p1), .val (.int p2), .val (.long q3), .second, .val (.long q4), .second, .val (.int (own_t0_3 p0 p1 p2 q3 q4)), .val (.int (own_t0_16 p0 p1 p2 q3 q4)), .val (.ref bm113), .val (.ref bm114), .val (.ref b115), .val (.ref b163), .val (.ref b171), .unset, .unset] [(.long ((own_t0_3 p0 p1 p2 q3 q4).toInt64)), (.long (p0.toInt64))])) (fun t k => XS.i2l X172.her hx rfl (hb hby at_165) rfl k) ?_
            refine own_st (f' := (mkF m 167 #[.val (.int p0), .val (.int p1), .val (.int p2), .val (.long q3), .second, .val (.long q4), .second, .val (.int (own_t0_3 p0 p1 p2 q3 q4)), .val (.int (own_t0_16 p0 p1 p2 q3 q4)), .val (.ref bm113), .val (.ref bm114), .val (.ref b115), .val (.ref b163), .val (.ref b171), .unset, .unset] [(.long ((p0.toInt64) + ((own_t0_3 p0 p1 p2 q3 q4).toInt64)))])) (fun t k => XS.ladd X172.her hx rfl (hb hby at_166) rfl k) ?_
            refine own_st (f' := (mkF m 169 #[.val (.int p0), .val (.int p1), .val (.int p2), .val (.long q3), .second, .val (.long q4), .second, .val (.int (own_t0_3 p0 p1 p2 q3 q4)), .val (.int (own_t0_16 p0 p1 p2 q3 q4)), .val (.ref bm113), .val (.ref bm114), .val (.ref b115), .val (.ref b163), .val (.ref b171), .val (.long (own_t0_167 p0 p1 p2 q3 q4)), .second] [])) (fun t k => XS.lstore X172.her hx rfl (hb hby at_167) rfl (l' := #[.val (.int p0), .val (.int p1), .val (.int p2), .val (.long q3), .second, .val (.long q4), .second, .val (.int (own_t0_3 p0 p1 p2 q3 q4)), .val (.int (own_t0_16 p0 p1 p2 q3 q4)), .val (.ref bm113), .val (.ref bm114), .val (.ref b115), .val (.ref b163), .val (.ref b171), .val (.long (own_t0_167 p0 p1 p2 q3 q4)), .second]) rfl k) ?_
            refine own_st (f' := (mkF m 171 #[.val (.int p0), .val (.int p1), .val (.int p2), .val (.long q3), .second, .val (.long q4), .second, .val (.int (own_t0_3 p0 p1 p2 q3 q4)), .val (.int (own_t0_16 p0 p1 p2 q3 q4)), .val (.ref bm113), .val (.ref bm114), .val (.ref b115), .val (.ref b163), .val (.ref b171), .val (.long (own_t0_167 p0 p1 p2 q3 q4)), .second] [(.ref b171)])) (fun t k => XS.aload X172.her hx rfl (hb hby at_169) rfl rfl k) ?_
            refine own_callVP (y := (⟨"com/example/bidwright/bidwright/allocation/Supply", "most", "()J"⟩ : MethodName)) (W := 0) [] X172 hx hZ hown (own_w132 hw) (own_w133 hw) (own_w135 hw) (own_w134 hw) (own_w77 hw) (own_w136 hw) (by decide) Ax172 (own_c22 l Z a0 hw h172 n0 Zn172 b171 p0 (2 : Int32) bt172 _ Fh172 Fc172 Bt172 (by rw [hl172]; rfl)) (by decide) (by decide) (by decide) (by decide) (by rw [hml]; rfl) own_pd11 rfl rfl (Nat.le_of_eq rfl) (hb hby at_171) ?_
            intro T173 X173
            show own_G p e below _ T173 (mkF m 174 #[.val (.int p0), .val (.int p1), .val (.int p2), .val (.long q3), .second, .val (.long q4), .second, .val (.int (own_t0_3 p0 p1 p2 q3 q4)), .val (.int (own_t0_16 p0 p1 p2 q3 q4)), .val (.ref bm113), .val (.ref bm114), .val (.ref b115), .val (.ref b163), .val (.ref b171), .val (.long (own_t0_167 p0 p1 p2 q3 q4)), .second] [(.long ((p0.toInt64 + (2 : Int32).toInt64) - 1))])
            refine own_st (f' := (mkF m 176 #[.val (.int p0), .val (.int p1), .val (.int p2), .val (.long q3), .second, .val (.long q4), .second, .val (.int (own_t0_3 p0 p1 p2 q3 q4)), .val (.int (own_t0_16 p0 p1 p2 q3 q4)), .val (.ref bm113), .val (.ref bm114), .val (.ref b115), .val (.ref b163), .val (.ref b171), .val (.long (own_t0_167 p0 p1 p2 q3 q4)), .second] [(.long (own_t0_167 p0 p1 p2 q3 q4)), (.long ((p0.toInt64 + (2 : Int32).toInt64) - 1))])) (fun t k => XS.lload X173.her hx rfl (hb hby at_174) rfl k) ?_
            refine own_st (f' := (mkF m 177 #[.val (.int p0), .val (.int p1), .val (.int p2), .val (.long q3), .second, .val (.long q4), .second, .val (.int (own_t0_3 p0 p1 p2 q3 q4)), .val (.int (own_t0_16 p0 p1 p2 q3 q4)), .val (.ref bm113), .val (.ref bm114), .val (.ref b115), .val (.ref b163), .val (.ref b171), .val (.long (own_t0_167 p0 p1 p2 q3 q4)), .second] [(.int (lcmpW ((p0.toInt64 + (2 : Int32).toInt64) - 1) (own_t0_167 p0 p1 p2 q3 q4)))])) (fun t k => XS.lcmp X173.her hx rfl (hb hby at_176) rfl k) ?_
            refine own_st (f' := (mkF m 180 #[.val (.int p0), .val (.int p1), .val (.int p2), .val (.long q3), .second, .val (.long q4), .second, .val (.int (own_t0_3 p0 p1 p2 q3 q4)), .val (.int (own_t0_16 p0 p1 p2 q3 q4)), .val (.ref bm113), .val (.ref bm114), .val (.ref b115), .val (.ref b163), .val (.ref b171), .val (.long (own_t0_167 p0 p1 p2 q3 q4)), .second] [])) (fun t k => XS.ifNo X173.her hx rfl (hb hby at_177) rfl ((if0 _ _).trans (teq ((lw_eq _ _).mpr (own_fin _ _ _ (by rw [own_nb1 p0 p1 p2 q3 q4 hc117 hc119]; decide)) : (lcmpW ((p0.toInt64 + (2 : Int32).toInt64) - 1) (own_t0_167 p0 p1 p2 q3 q4)) = (0 : Int32))).2) k) ?_
            refine own_st (f' := (mkF m 181 #[.val (.int p0), .val (.int p1), .val (.int p2), .val (.long q3), .second, .val (.long q4), .second, .val (.int (own_t0_3 p0 p1 p2 q3 q4)), .val (.int (own_t0_16 p0 p1 p2 q3 q4)), .val (.ref bm113), .val (.ref bm114), .val (.ref b115), .val (.ref b163), .val (.ref b171), .val (.long (own_t0_167 p0 p1 p2 q3 q4)), .second] [(.int (1 : Int32))])) (fun t k => XS.iconst X173.her hx rfl (hb hby at_180) k) ?_
            refine own_st (f' := (mkF m 185 #[.val (.int p0), .val (.int p1), .val (.int p2), .val (.long q3), .second, .val (.long q4), .second, .val (.int (own_t0_3 p0 p1 p2 q3 q4)), .val (.int (own_t0_16 p0 p1 p2 q3 q4)), .val (.ref bm113), .val (.ref bm114), .val (.ref b115), .val (.ref b163), .val (.ref b171), .val (.long (own_t0_167 p0 p1 p2 q3 q4)), .second] [(.int (1 : Int32))])) (fun t k => XS.goto X173.her hx rfl (pc0 := 181) (pc' := 185) rfl (hb hby at_181) (by decide) (by decide) k) ?_
            refine own_retN (t := .boolean) X173 hx hret hlk (by simp) (hb hby at_185) (by first | decide | omega) (by first | decide | omega) ?_
            exact congrArg (fun q => some (Value.int q)) (by decide)
          · refine own_st (f' := (mkF m 147 #[.val (.int p0), .val (.int p1), .val (.int p2), .val (.long q3), .second, .val (.long q4), .second, .val (.int (own_t0_3 p0 p1 p2 q3 q4)), .val (.int (own_t0_16 p0 p1 p2 q3 q4)), .val (.ref bm113), .val (.ref bm114), .val (.ref b115), .val (.ref b163), .unset, .unset, .unset] [])) (fun t k => XS.icmpYes X168.her hx rfl (pc0 := 136) (pc' := 147) rfl (hb hby at_136) rfl (flt hc169).2.2.2 (by decide) (by decide) k) ?_
            refine own_newO X168 hx hZ hown (own_w75 hw) (own_w76 hw) (own_w77 hw) (hb hby at_147) (by decide) (by decide) ?_
            intro T174 h174 b174 g174 q174 X174 E174 A174 D174
            have lt_vd_b174 : vd < b174 := Nat.lt_of_lt_of_le B168_vd.lt (Nat.le_of_eq g174.symm)
            have ne_vd_b174 : vd ≠ b174 := Nat.ne_of_lt (Nat.lt_of_lt_of_le B168_vd.lt (Nat.le_of_eq g174.symm))
            have B174_vd := B168_vd.ext E174
            have lt_bg118_b174 : bg118 < b174 := Nat.lt_of_lt_of_le B168_bg118.lt (Nat.le_of_eq g174.symm)
            have ne_bg118_b174 : bg118 ≠ b174 := Nat.ne_of_lt (Nat.lt_of_lt_of_le B168_bg118.lt (Nat.le_of_eq g174.symm))
            have B174_bg118 := B168_bg118.ext E174
            have lt_bg166_b174 : bg166 < b174 := Nat.lt_of_lt_of_le Bg168.lt (Nat.le_of_eq g174.symm)
            have ne_bg166_b174 : bg166 ≠ b174 := Nat.ne_of_lt (Nat.lt_of_lt_of_le Bg168.lt (Nat.le_of_eq g174.symm))
            have B174_bg166 := Bg168.ext E174
            have lt_bm113_b174 : bm113 < b174 := Nat.lt_of_lt_of_le A168_bm113.lt (Nat.le_of_eq g174.symm)
            have ne_bm113_b174 : bm113 ≠ b174 := Nat.ne_of_lt (Nat.lt_of_lt_of_le A168_bm113.lt (Nat.le_of_eq g174.symm))
            have A174_bm113 := A168_bm113.ext E174
            have lt_bm114_b174 : bm114 < b174 := Nat.lt_of_lt_of_le A168_bm114.lt (Nat.le_of_eq g174.symm)
            have ne_bm114_b174 : bm114 ≠ b174 := Nat.ne_of_lt (Nat.lt_of_lt_of_le A168_bm114.lt (Nat.le_of_eq g174.symm))
            have A174_bm114 := A168_bm114.ext E174
            have lt_b115_b174 : b115 < b174 := Nat.lt_of_lt_of_le A168_b115.lt (Nat.le_of_eq g174.symm)
            have ne_b115_b174 : b115 ≠ b174 := Nat.ne_of_lt (Nat.lt_of_lt_of_le A168_b115.lt (Nat.le_of_eq g174.symm))
            have A174_b115 := A168_b115.ext E174
            have lt_b163_b174 : b163 < b174 := Nat.lt_of_lt_of_le Ea168.lt (Nat.le_of_eq g174.symm)
            have ne_b163_b174 : b163 ≠ b174 := Nat.ne_of_lt (Nat.lt_of_lt_of_le Ea168.lt (Nat.le_of_eq g174.symm))
            have A174_b163 := Ea168.ext E174
            have F174_bm113_cents := F168_bm113_cents.ext E174
            have F174_bm114_cents := F168_bm114_cents.ext E174
            have F174_b115_modCount := F168_b115_modCount.ext E174
            have F174_b115_elementData := F168_b115_elementData.ext E174
            have F174_b115_size := F168_b115_size.ext E174
            have F174_b163_modCount := Fm168.ext E174
            have F174_b163_elementData := Fe168.ext E174
            have F174_b163_size := Fs168.ext E174
            have S174_DEFAULTCAPACITY_EMPTY_ELEMENTDATA := Sk168.ext E174
            have ga_b174 : n0 ≤ b174 := Nat.le_trans Z0 q174
            have Zn174 : n0 ≤ h174.size := Nat.le_trans Zn168 E174.1
            have F174_held : Fld Z h174 b174 "com/example/bidwright/bidwright/allocation/Supply" "held" "I" (.int (0 : Int32)) := D174 (Or.inr (own_w83 hw)) (ty := .int) (by decide)
            have F174_costs : Fld Z h174 b174 "com/example/bidwright/bidwright/allocation/Supply" "costs" "[J" .null := D174 (Or.inr (own_w129 hw)) (ty := (.array .long)) (by decide)
            have F174_revenues : Fld Z h174 b174 "com/example/bidwright/bidwright/allocation/Supply" "revenues" "[J" .null := D174 (Or.inr (own_w131 hw)) (ty := (.array .long)) (by decide)
            refine own_st (f' := (mkF m 151 #[.val (.int p0), .val (.int p1), .val (.int p2), .val (.long q3), .second, .val (.long q4), .second, .val (.int (own_t0_3 p0 p1 p2 q3 q4)), .val (.int (own_t0_16 p0 p1 p2 q3 q4)), .val (.ref bm113), .val (.ref bm114), .val (.ref b115), .val (.ref b163), .unset, .unset, .unset] [(.ref b174), (.ref b174)])) (fun t k => XS.dup X174.her hx rfl (hb hby at_150) rfl rfl k) ?_
            refine own_st (f' := (mkF m 152 #[.val (.int p0), .val (.int p1), .val (.int p2), .val (.long q3), .second, .val (.long q4), .second, .val (.int (own_t0_3 p0 p1 p2 q3 q4)), .val (.int (own_t0_16 p0 p1 p2 q3 q4)), .val (.ref bm113), .val (.ref bm114), .val (.ref b115), .val (.ref b163), .unset, .unset, .unset] [(.int p0), (.ref b174), (.ref b174)])) (fun t k => XS.iloadN X174.her hx rfl (hb hby at_151) rfl k) ?_
            refine own_st (f' := (mkF m 154 #[.val (.int p0), .val (.int p1), .val (.int p2), .val (.long q3), .second, .val (.long q4), .second, .val (.int (own_t0_3 p0 p1 p2 q3 q4)), .val (.int (own_t0_16 p0 p1 p2 q3 q4)), .val (.ref bm113), .val (.ref bm114), .val (.ref b115), .val (.ref b163), .unset, .unset, .unset] [(.ref b115), (.int p0), (.ref b174), (.ref b174)])) (fun t k => XS.aload X174.her hx rfl (hb hby at_152) rfl rfl k) ?_
            refine own_st (f' := (mkF m 156 #[.val (.int p0), .val (.int p1), .val (.int p2), .val (.long q3), .second, .val (.long q4), .second, .val (.int (own_t0_3 p0 p1 p2 q3 q4)), .val (.int (own_t0_16 p0 p1 p2 q3 q4)), .val (.ref bm113), .val (.ref bm114), .val (.ref b115), .val (.ref b163), .unset, .unset, .unset] [(.ref b163), (.ref b115), (.int p0), (.ref b174), (.ref b174)])) (fun t k => XS.aload X174.her hx rfl (hb hby at_154) rfl rfl k) ?_
            have LS175_2 : own_LS Z h174 b174 b115 [(bm113, (own_t0_27 p0 p1 p2 q3 q4))] := ⟨lt_b115_b174, A174_b115, F174_b115_size, (Or.inr ⟨bg118, lt_bg118_b174, F174_b115_elementData, B174_bg118⟩), (own_qS ⟨lt_bm113_b174, A174_bm113, F174_bm113_cents, own_am27 p0 p1 p2 q3 q4⟩ own_q0)⟩
            have LS175_3 : own_LS Z h174 b174 b163 [(bm114, (own_t0_42 p0 p1 p2 q3 q4)), (bm113, (own_t0_27 p0 p1 p2 q3 q4))] := ⟨lt_b163_b174, A174_b163, F174_b163_size, (Or.inr ⟨bg166, lt_bg166_b174, F174_b163_elementData, B174_bg166⟩), (own_qS ⟨lt_bm114_b174, A174_bm114, F174_bm114_cents, own_am42 p0 p1 p2 q3 q4⟩ (own_qS ⟨lt_bm113_b174, A174_bm113, F174_bm113_cents, own_am27 p0 p1 p2 q3 q4⟩ own_q0))⟩
            refine own_callC (y := (⟨"com/example/bidwright/bidwright/allocation/Supply", "<init>", "(ILjava/util/List;Ljava/util/List;)V"⟩ : MethodName)) (W := 1) [(.int p0), (.ref b115), (.ref b163)] X174 hx hZ hown rfl (own_w78 hw) (own_w79 hw) (own_w77 hw) (own_w80 hw) (by decide) (own_c13 l Z a0 hw h174 n0 Zn174 b174 p0 b115 b163 b174 _ _ A174 F174_held F174_costs F174_revenues ga_b174 (Nat.le_refl _) LS175_2 LS175_3 (by show 1 ≤ 3; decide) (by show 2 ≤ 3; decide)) (allS (Or.inr q174) all0) (by decide) (by decide) (by decide) (by decide) (by rw [hml]; rfl) own_pd14 rfl rfl (Nat.le_of_eq rfl) (hb hby at_156) ?_
            rintro v175 T175 h175 X175 K175 ⟨rfl, Ax175, Fh175, bt175, La175, Fc175, Bt175, hl175⟩
            have B175_vd := B174_vd.keep K175 (ninS ne_vd_b174 nin0)
            have B175_bg118 := B174_bg118.keep K175 (ninS ne_bg118_b174 nin0)
            have B175_bg166 := B174_bg166.keep K175 (ninS ne_bg166_b174 nin0)
            have F175_bm113_cents := F174_bm113_cents.keep K175 (ninS ne_bm113_b174 nin0)
            have F175_bm114_cents := F174_bm114_cents.keep K175 (ninS ne_bm114_b174 nin0)
            have F175_b115_modCount := F174_b115_modCount.keep K175 (ninS ne_b115_b174 nin0)
            have F175_b115_elementData := F174_b115_elementData.keep K175 (ninS ne_b115_b174 nin0)
            have F175_b115_size := F174_b115_size.keep K175 (ninS ne_b115_b174 nin0)
            have F175_b163_modCount := F174_b163_modCount.keep K175 (ninS ne_b163_b174 nin0)
            have F175_b163_elementData := F174_b163_elementData.keep K175 (ninS ne_b163_b174 nin0)
            have F175_b163_size := F174_b163_size.keep K175 (ninS ne_b163_b174 nin0)
            have A175_bm113 := A174_bm113.keep K175
            have A175_bm114 := A174_bm114.keep K175
            have A175_b115 := A174_b115.keep K175
            have A175_b163 := A174_b163.keep K175
            have A175_b174 := A174.keep K175
            have Zn175 : n0 ≤ h175.size := Nat.le_trans Zn174 K175.1
            show own_G p e below _ T175 (mkF m 159 #[.val (.int p0), .val (.int p1), .val (.int p2), .val (.long q3), .second, .val (.long q4), .second, .val (.int (own_t0_3 p0 p1 p2 q3 q4)), .val (.int (own_t0_16 p0 p1 p2 q3 q4)), .val (.ref bm113), .val (.ref bm114), .val (.ref b115), .val (.ref b163), .unset, .unset, .unset] [(.ref b174)])
            refine own_st (f' := (mkF m 161 #[.val (.int p0), .val (.int p1), .val (.int p2), .val (.long q3), .second, .val (.long q4), .second, .val (.int (own_t0_3 p0 p1 p2 q3 q4)), .val (.int (own_t0_16 p0 p1 p2 q3 q4)), .val (.ref bm113), .val (.ref bm114), .val (.ref b115), .val (.ref b163), .val (.ref b174), .unset, .unset] [])) (fun t k => XS.astore X175.her hx rfl (hb hby at_159) rfl rfl (l' := #[.val (.int p0), .val (.int p1), .val (.int p2), .val (.long q3), .second, .val (.long q4), .second, .val (.int (own_t0_3 p0 p1 p2 q3 q4)), .val (.int (own_t0_16 p0 p1 p2 q3 q4)), .val (.ref bm113), .val (.ref bm114), .val (.ref b115), .val (.ref b163), .val (.ref b174), .unset, .unset]) rfl k) ?_
            refine own_st (f' := (mkF m 162 #[.val (.int p0), .val (.int p1), .val (.int p2), .val (.long q3), .second, .val (.long q4), .second, .val (.int (own_t0_3 p0 p1 p2 q3 q4)), .val (.int (own_t0_16 p0 p1 p2 q3 q4)), .val (.ref bm113), .val (.ref bm114), .val (.ref b115), .val (.ref b163), .val (.ref b174), .unset, .unset] [(.int p0)])) (fun t k => XS.iloadN X175.her hx rfl (hb hby at_161) rfl k) ?_
            refine own_st (f' := (mkF m 163 #[.val (.int p0), .val (.int p1), .val (.int p2), .val (.long q3), .second, .val (.long q4), .second, .val (.int (own_t0_3 p0 p1 p2 q3 q4)), .val (.int (own_t0_16 p0 p1 p2 q3 q4)), .val (.ref bm113), .val (.ref bm114), .val (.ref b115), .val (.ref b163), .val (.ref b174), .unset, .unset] [(.long (p0.toInt64))])) (fun t k => XS.i2l X175.her hx rfl (hb hby at_162) rfl k) ?_
            refine own_st (f' := (mkF m 165 #[.val (.int p0), .val (.int p1), .val (.int p2), .val (.long q3), .second, .val (.long q4), .second, .val (.int (own_t0_3 p0 p1 p2 q3 q4)), .val (.int (own_t0_16 p0 p1 p2 q3 q4)), .val (.ref bm113), .val (.ref bm114), .val (.ref b115), .val (.ref b163), .val (.ref b174), .unset, .unset] [(.int (own_t0_3 p0 p1 p2 q3 q4)), (.long (p0.toInt64))])) (fun t k => XS.iload X175.her hx rfl (hb hby at_163) rfl k) ?_
            refine own_st (f' := (mkF m 166 #[.val (.int p0), .val (.int p1), .val (.int p2), .val (.long q3), .second, .val (.long q4), .second, .val (.int (own_t0_3 p0 p1 p2 q3 q4)), .val (.int (own_t0_16 p0 p1 p2 q3 q4)), .val (.ref bm113), .val (.ref bm114), .val (.ref b115), .val (.ref b163), .val (.ref b174), .unset, .unset] [(.long ((own_t0_3 p0 p1 p2 q3 q4).toInt64)), (.long (p0.toInt64))])) (fun t k => XS.i2l X175.her hx rfl (hb hby at_165) rfl k) ?_
            refine own_st (f' := (mkF m 167 #[.val (.int p0), .val (.int p1), .val (.int p2), .val (.long q3), .second, .val (.long q4), .second, .val (.int (own_t0_3 p0 p1 p2 q3 q4)), .val (.int (own_t0_16 p0 p1 p2 q3 q4)), .val (.ref bm113), .val (.ref bm114), .val (.ref b115), .val (.ref b163), .val (.ref b174), .unset, .unset] [(.long ((p0.toInt64) + ((own_t0_3 p0 p1 p2 q3 q4).toInt64)))])) (fun t k => XS.ladd X175.her hx rfl (hb hby at_166) rfl k) ?_
            refine own_st (f' := (mkF m 169 #[.val (.int p0), .val (.int p1), .val (.int p2), .val (.long q3), .second, .val (.long q4), .second, .val (.int (own_t0_3 p0 p1 p2 q3 q4)), .val (.int (own_t0_16 p0 p1 p2 q3 q4)), .val (.ref bm113), .val (.ref bm114), .val (.ref b115), .val (.ref b163), .val (.ref b174), .val (.long (own_t0_167 p0 p1 p2 q3 q4)), .second] [])) (fun t k => XS.lstore X175.her hx rfl (hb hby at_167) rfl (l' := #[.val (.int p0), .val (.int p1), .val (.int p2), .val (.long q3), .second, .val (.long q4), .second, .val (.int (own_t0_3 p0 p1 p2 q3 q4)), .val (.int (own_t0_16 p0 p1 p2 q3 q4)), .val (.ref bm113), .val (.ref bm114), .val (.ref b115), .val (.ref b163), .val (.ref b174), .val (.long (own_t0_167 p0 p1 p2 q3 q4)), .second]) rfl k) ?_
            refine own_st (f' := (mkF m 171 #[.val (.int p0), .val (.int p1), .val (.int p2), .val (.long q3), .second, .val (.long q4), .second, .val (.int (own_t0_3 p0 p1 p2 q3 q4)), .val (.int (own_t0_16 p0 p1 p2 q3 q4)), .val (.ref bm113), .val (.ref bm114), .val (.ref b115), .val (.ref b163), .val (.ref b174), .val (.long (own_t0_167 p0 p1 p2 q3 q4)), .second] [(.ref b174)])) (fun t k => XS.aload X175.her hx rfl (hb hby at_169) rfl rfl k) ?_
            refine own_callVP (y := (⟨"com/example/bidwright/bidwright/allocation/Supply", "most", "()J"⟩ : MethodName)) (W := 0) [] X175 hx hZ hown (own_w132 hw) (own_w133 hw) (own_w135 hw) (own_w134 hw) (own_w77 hw) (own_w136 hw) (by decide) Ax175 (own_c22 l Z a0 hw h175 n0 Zn175 b174 p0 (2 : Int32) bt175 _ Fh175 Fc175 Bt175 (by rw [hl175]; rfl)) (by decide) (by decide) (by decide) (by decide) (by rw [hml]; rfl) own_pd11 rfl rfl (Nat.le_of_eq rfl) (hb hby at_171) ?_
            intro T176 X176
            show own_G p e below _ T176 (mkF m 174 #[.val (.int p0), .val (.int p1), .val (.int p2), .val (.long q3), .second, .val (.long q4), .second, .val (.int (own_t0_3 p0 p1 p2 q3 q4)), .val (.int (own_t0_16 p0 p1 p2 q3 q4)), .val (.ref bm113), .val (.ref bm114), .val (.ref b115), .val (.ref b163), .val (.ref b174), .val (.long (own_t0_167 p0 p1 p2 q3 q4)), .second] [(.long ((p0.toInt64 + (2 : Int32).toInt64) - 1))])
            refine own_st (f' := (mkF m 176 #[.val (.int p0), .val (.int p1), .val (.int p2), .val (.long q3), .second, .val (.long q4), .second, .val (.int (own_t0_3 p0 p1 p2 q3 q4)), .val (.int (own_t0_16 p0 p1 p2 q3 q4)), .val (.ref bm113), .val (.ref bm114), .val (.ref b115), .val (.ref b163), .val (.ref b174), .val (.long (own_t0_167 p0 p1 p2 q3 q4)), .second] [(.long (own_t0_167 p0 p1 p2 q3 q4)), (.long ((p0.toInt64 + (2 : Int32).toInt64) - 1))])) (fun t k => XS.lload X176.her hx rfl (hb hby at_174) rfl k) ?_
            refine own_st (f' := (mkF m 177 #[.val (.int p0), .val (.int p1), .val (.int p2), .val (.long q3), .second, .val (.long q4), .second, .val (.int (own_t0_3 p0 p1 p2 q3 q4)), .val (.int (own_t0_16 p0 p1 p2 q3 q4)), .val (.ref bm113), .val (.ref bm114), .val (.ref b115), .val (.ref b163), .val (.ref b174), .val (.long (own_t0_167 p0 p1 p2 q3 q4)), .second] [(.int (lcmpW ((p0.toInt64 + (2 : Int32).toInt64) - 1) (own_t0_167 p0 p1 p2 q3 q4)))])) (fun t k => XS.lcmp X176.her hx rfl (hb hby at_176) rfl k) ?_
            refine own_st (f' := (mkF m 180 #[.val (.int p0), .val (.int p1), .val (.int p2), .val (.long q3), .second, .val (.long q4), .second, .val (.int (own_t0_3 p0 p1 p2 q3 q4)), .val (.int (own_t0_16 p0 p1 p2 q3 q4)), .val (.ref bm113), .val (.ref bm114), .val (.ref b115), .val (.ref b163), .val (.ref b174), .val (.long (own_t0_167 p0 p1 p2 q3 q4)), .second] [])) (fun t k => XS.ifNo X176.her hx rfl (hb hby at_177) rfl ((if0 _ _).trans (teq ((lw_eq _ _).mpr (own_fin _ _ _ (by rw [own_nb1 p0 p1 p2 q3 q4 hc117 hc119]; decide)) : (lcmpW ((p0.toInt64 + (2 : Int32).toInt64) - 1) (own_t0_167 p0 p1 p2 q3 q4)) = (0 : Int32))).2) k) ?_
            refine own_st (f' := (mkF m 181 #[.val (.int p0), .val (.int p1), .val (.int p2), .val (.long q3), .second, .val (.long q4), .second, .val (.int (own_t0_3 p0 p1 p2 q3 q4)), .val (.int (own_t0_16 p0 p1 p2 q3 q4)), .val (.ref bm113), .val (.ref bm114), .val (.ref b115), .val (.ref b163), .val (.ref b174), .val (.long (own_t0_167 p0 p1 p2 q3 q4)), .second] [(.int (1 : Int32))])) (fun t k => XS.iconst X176.her hx rfl (hb hby at_180) k) ?_
            refine own_st (f' := (mkF m 185 #[.val (.int p0), .val (.int p1), .val (.int p2), .val (.long q3), .second, .val (.long q4), .second, .val (.int (own_t0_3 p0 p1 p2 q3 q4)), .val (.int (own_t0_16 p0 p1 p2 q3 q4)), .val (.ref bm113), .val (.ref bm114), .val (.ref b115), .val (.ref b163), .val (.ref b174), .val (.long (own_t0_167 p0 p1 p2 q3 q4)), .second] [(.int (1 : Int32))])) (fun t k => XS.goto X176.her hx rfl (pc0 := 181) (pc' := 185) rfl (hb hby at_181) (by decide) (by decide) k) ?_
            refine own_retN (t := .boolean) X176 hx hret hlk (by simp) (hb hby at_185) (by first | decide | omega) (by first | decide | omega) ?_
            exact congrArg (fun q => some (Value.int q)) (by decide)
        · refine own_st (f' := (mkF m 133 #[.val (.int p0), .val (.int p1), .val (.int p2), .val (.long q3), .second, .val (.long q4), .second, .val (.int (own_t0_3 p0 p1 p2 q3 q4)), .val (.int (own_t0_16 p0 p1 p2 q3 q4)), .val (.ref bm113), .val (.ref bm114), .val (.ref b115), .val (.ref b163), .unset, .unset, .unset] [])) (fun t k => XS.icmpYes X166.her hx rfl (pc0 := 122) (pc' := 133) rfl (hb hby at_122) rfl (flt hc167).2.2.2 (by decide) (by decide) k) ?_
          refine own_st (f' := (mkF m 135 #[.val (.int p0), .val (.int p1), .val (.int p2), .val (.long q3), .second, .val (.long q4), .second, .val (.int (own_t0_3 p0 p1 p2 q3 q4)), .val (.int (own_t0_16 p0 p1 p2 q3 q4)), .val (.ref bm113), .val (.ref bm114), .val (.ref b115), .val (.ref b163), .unset, .unset, .unset] [(.int (own_t0_16 p0 p1 p2 q3 q4))])) (fun t k => XS.iload X166.her hx rfl (hb hby at_133) rfl k) ?_
          refine own_st (f' := (mkF m 136 #[.val (.int p0), .val (.int p1), .val (.int p2), .val (.long q3), .second, .val (.long q4), .second, .val (.int (own_t0_3 p0 p1 p2 q3 q4)), .val (.int (own_t0_16 p0 p1 p2 q3 q4)), .val (.ref bm113), .val (.ref bm114), .val (.ref b115), .val (.ref b163), .unset, .unset, .unset] [(.int (2 : Int32)), (.int (own_t0_16 p0 p1 p2 q3 q4))])) (fun t k => XS.iconst X166.her hx rfl (hb hby at_135) k) ?_
          refine own_st (f' := (mkF m 147 #[.val (.int p0), .val (.int p1), .val (.int p2), .val (.long q3), .second, .val (.long q4), .second, .val (.int (own_t0_3 p0 p1 p2 q3 q4)), .val (.int (own_t0_16 p0 p1 p2 q3 q4)), .val (.ref bm113), .val (.ref bm114), .val (.ref b115), .val (.ref b163), .unset, .unset, .unset] [])) (fun t k => XS.icmpYes X166.her hx rfl (pc0 := 136) (pc' := 147) rfl (hb hby at_136) rfl (flt (own_nl (by decide) hc167 : ¬ ((2 : Int32) < (own_t0_16 p0 p1 p2 q3 q4)))).2.2.2 (by decide) (by decide) k) ?_
          refine own_newO X166 hx hZ hown (own_w75 hw) (own_w76 hw) (own_w77 hw) (hb hby at_147) (by decide) (by decide) ?_
          intro T177 h177 b177 g177 q177 X177 E177 A177 D177
          have lt_vd_b177 : vd < b177 := Nat.lt_of_lt_of_le B166_vd.lt (Nat.le_of_eq g177.symm)
          have ne_vd_b177 : vd ≠ b177 := Nat.ne_of_lt (Nat.lt_of_lt_of_le B166_vd.lt (Nat.le_of_eq g177.symm))
          have B177_vd := B166_vd.ext E177
          have lt_bg118_b177 : bg118 < b177 := Nat.lt_of_lt_of_le B166_bg118.lt (Nat.le_of_eq g177.symm)
          have ne_bg118_b177 : bg118 ≠ b177 := Nat.ne_of_lt (Nat.lt_of_lt_of_le B166_bg118.lt (Nat.le_of_eq g177.symm))
          have B177_bg118 := B166_bg118.ext E177
          have lt_bg166_b177 : bg166 < b177 := Nat.lt_of_lt_of_le Bg166.lt (Nat.le_of_eq g177.symm)
          have ne_bg166_b177 : bg166 ≠ b177 := Nat.ne_of_lt (Nat.lt_of_lt_of_le Bg166.lt (Nat.le_of_eq g177.symm))
          have B177_bg166 := Bg166.ext E177
          have lt_bm113_b177 : bm113 < b177 := Nat.lt_of_lt_of_le A166_bm113.lt (Nat.le_of_eq g177.symm)
          have ne_bm113_b177 : bm113 ≠ b177 := Nat.ne_of_lt (Nat.lt_of_lt_of_le A166_bm113.lt (Nat.le_of_eq g177.symm))
          have A177_bm113 := A166_bm113.ext E177
          have lt_bm114_b177 : bm114 < b177 := Nat.lt_of_lt_of_le A166_bm114.lt (Nat.le_of_eq g177.symm)
          have ne_bm114_b177 : bm114 ≠ b177 := Nat.ne_of_lt (Nat.lt_of_lt_of_le A166_bm114.lt (Nat.le_of_eq g177.symm))
          have A177_bm114 := A166_bm114.ext E177
          have lt_b115_b177 : b115 < b177 := Nat.lt_of_lt_of_le A166_b115.lt (Nat.le_of_eq g177.symm)
          have ne_b115_b177 : b115 ≠ b177 := Nat.ne_of_lt (Nat.lt_of_lt_of_le A166_b115.lt (Nat.le_of_eq g177.symm))
          have A177_b115 := A166_b115.ext E177
          have lt_b163_b177 : b163 < b177 := Nat.lt_of_lt_of_le Ea166.lt (Nat.le_of_eq g177.symm)
          have ne_b163_b177 : b163 ≠ b177 := Nat.ne_of_lt (Nat.lt_of_lt_of_le Ea166.lt (Nat.le_of_eq g177.symm))
          have A177_b163 := Ea166.ext E177
          have F177_bm113_cents := F166_bm113_cents.ext E177
          have F177_bm114_cents := F166_bm114_cents.ext E177
          have F177_b115_modCount := F166_b115_modCount.ext E177
          have F177_b115_elementData := F166_b115_elementData.ext E177
          have F177_b115_size := F166_b115_size.ext E177
          have F177_b163_modCount := Fm166.ext E177
          have F177_b163_elementData := Fe166.ext E177
          have F177_b163_size := Fs166.ext E177
          have S177_DEFAULTCAPACITY_EMPTY_ELEMENTDATA := Sk166.ext E177
          have ga_b177 : n0 ≤ b177 := Nat.le_trans Z0 q177
          have Zn177 : n0 ≤ h177.size := Nat.le_trans Zn166 E177.1
          have F177_held : Fld Z h177 b177 "com/example/bidwright/bidwright/allocation/Supply" "held" "I" (.int (0 : Int32)) := D177 (Or.inr (own_w83 hw)) (ty := .int) (by decide)
          have F177_costs : Fld Z h177 b177 "com/example/bidwright/bidwright/allocation/Supply" "costs" "[J" .null := D177 (Or.inr (own_w129 hw)) (ty := (.array .long)) (by decide)
          have F177_revenues : Fld Z h177 b177 "com/example/bidwright/bidwright/allocation/Supply" "revenues" "[J" .null := D177 (Or.inr (own_w131 hw)) (ty := (.array .long)) (by decide)
          refine own_st (f' := (mkF m 151 #[.val (.int p0), .val (.int p1), .val (.int p2), .val (.long q3), .second, .val (.long q4), .second, .val (.int (own_t0_3 p0 p1 p2 q3 q4)), .val (.int (own_t0_16 p0 p1 p2 q3 q4)), .val (.ref bm113), .val (.ref bm114), .val (.ref b115), .val (.ref b163), .unset, .unset, .unset] [(.ref b177), (.ref b177)])) (fun t k => XS.dup X177.her hx rfl (hb hby at_150) rfl rfl k) ?_
          refine own_st (f' := (mkF m 152 #[.val (.int p0), .val (.int p1), .val (.int p2), .val (.long q3), .second, .val (.long q4), .second, .val (.int (own_t0_3 p0 p1 p2 q3 q4)), .val (.int (own_t0_16 p0 p1 p2 q3 q4)), .val (.ref bm113), .val (.ref bm114), .val (.ref b115), .val (.ref b163), .unset, .unset, .unset] [(.int p0), (.ref b177), (.ref b177)])) (fun t k => XS.iloadN X177.her hx rfl (hb hby at_151) rfl k) ?_
          refine own_st (f' := (mkF m 154 #[.val (.int p0), .val (.int p1), .val (.int p2), .val (.long q3), .second, .val (.long q4), .second, .val (.int (own_t0_3 p0 p1 p2 q3 q4)), .val (.int (own_t0_16 p0 p1 p2 q3 q4)), .val (.ref bm113), .val (.ref bm114), .val (.ref b115), .val (.ref b163), .unset, .unset, .unset] [(.ref b115), (.int p0), (.ref b177), (.ref b177)])) (fun t k => XS.aload X177.her hx rfl (hb hby at_152) rfl rfl k) ?_
          refine own_st (f' := (mkF m 156 #[.val (.int p0), .val (.int p1), .val (.int p2), .val (.long q3), .second, .val (.long q4), .second, .val (.int (own_t0_3 p0 p1 p2 q3 q4)), .val (.int (own_t0_16 p0 p1 p2 q3 q4)), .val (.ref bm113), .val (.ref bm114), .val (.ref b115), .val (.ref b163), .unset, .unset, .unset] [(.ref b163), (.ref b115), (.int p0), (.ref b177), (.ref b177)])) (fun t k => XS.aload X177.her hx rfl (hb hby at_154) rfl rfl k) ?_
          have LS178_2 : own_LS Z h177 b177 b115 [(bm113, (own_t0_27 p0 p1 p2 q3 q4))] := ⟨lt_b115_b177, A177_b115, F177_b115_size, (Or.inr ⟨bg118, lt_bg118_b177, F177_b115_elementData, B177_bg118⟩), (own_qS ⟨lt_bm113_b177, A177_bm113, F177_bm113_cents, own_am27 p0 p1 p2 q3 q4⟩ own_q0)⟩
          have LS178_3 : own_LS Z h177 b177 b163 [(bm114, (own_t0_42 p0 p1 p2 q3 q4))] := ⟨lt_b163_b177, A177_b163, F177_b163_size, (Or.inr ⟨bg166, lt_bg166_b177, F177_b163_elementData, B177_bg166⟩), (own_qS ⟨lt_bm114_b177, A177_bm114, F177_bm114_cents, own_am42 p0 p1 p2 q3 q4⟩ own_q0)⟩
          refine own_callC (y := (⟨"com/example/bidwright/bidwright/allocation/Supply", "<init>", "(ILjava/util/List;Ljava/util/List;)V"⟩ : MethodName)) (W := 1) [(.int p0), (.ref b115), (.ref b163)] X177 hx hZ hown rfl (own_w78 hw) (own_w79 hw) (own_w77 hw) (own_w80 hw) (by decide) (own_c13 l Z a0 hw h177 n0 Zn177 b177 p0 b115 b163 b177 _ _ A177 F177_held F177_costs F177_revenues ga_b177 (Nat.le_refl _) LS178_2 LS178_3 (by show 1 ≤ 3; decide) (by show 1 ≤ 3; decide)) (allS (Or.inr q177) all0) (by decide) (by decide) (by decide) (by decide) (by rw [hml]; rfl) own_pd14 rfl rfl (Nat.le_of_eq rfl) (hb hby at_156) ?_
          rintro v178 T178 h178 X178 K178 ⟨rfl, Ax178, Fh178, bt178, La178, Fc178, Bt178, hl178⟩
          have B178_vd := B177_vd.keep K178 (ninS ne_vd_b177 nin0)
          have B178_bg118 := B177_bg118.keep K178 (ninS ne_bg118_b177 nin0)
          have B178_bg166 := B177_bg166.keep K178 (ninS ne_bg166_b177 nin0)
          have F178_bm113_cents := F177_bm113_cents.keep K178 (ninS ne_bm113_b177 nin0)
          have F178_bm114_cents := F177_bm114_cents.keep K178 (ninS ne_bm114_b177 nin0)
          have F178_b115_modCount := F177_b115_modCount.keep K178 (ninS ne_b115_b177 nin0)
          have F178_b115_elementData := F177_b115_elementData.keep K178 (ninS ne_b115_b177 nin0)
          have F178_b115_size := F177_b115_size.keep K178 (ninS ne_b115_b177 nin0)
          have F178_b163_modCount := F177_b163_modCount.keep K178 (ninS ne_b163_b177 nin0)
          have F178_b163_elementData := F177_b163_elementData.keep K178 (ninS ne_b163_b177 nin0)
          have F178_b163_size := F177_b163_size.keep K178 (ninS ne_b163_b177 nin0)
          have A178_bm113 := A177_bm113.keep K178
          have A178_bm114 := A177_bm114.keep K178
          have A178_b115 := A177_b115.keep K178
          have A178_b163 := A177_b163.keep K178
          have A178_b177 := A177.keep K178
          have Zn178 : n0 ≤ h178.size := Nat.le_trans Zn177 K178.1
          show own_G p e below _ T178 (mkF m 159 #[.val (.int p0), .val (.int p1), .val (.int p2), .val (.long q3), .second, .val (.long q4), .second, .val (.int (own_t0_3 p0 p1 p2 q3 q4)), .val (.int (own_t0_16 p0 p1 p2 q3 q4)), .val (.ref bm113), .val (.ref bm114), .val (.ref b115), .val (.ref b163), .unset, .unset, .unset] [(.ref b177)])
          refine own_st (f' := (mkF m 161 #[.val (.int p0), .val (.int p1), .val (.int p2), .val (.long q3), .second, .val (.long q4), .second, .val (.int (own_t0_3 p0 p1 p2 q3 q4)), .val (.int (own_t0_16 p0 p1 p2 q3 q4)), .val (.ref bm113), .val (.ref bm114), .val (.ref b115), .val (.ref b163), .val (.ref b177), .unset, .unset] [])) (fun t k => XS.astore X178.her hx rfl (hb hby at_159) rfl rfl (l' := #[.val (.int p0), .val (.int p1), .val (.int p2), .val (.long q3), .second, .val (.long q4), .second, .val (.int (own_t0_3 p0 p1 p2 q3 q4)), .val (.int (own_t0_16 p0 p1 p2 q3 q4)), .val (.ref bm113), .val (.ref bm114), .val (.ref b115), .val (.ref b163), .val (.ref b177), .unset, .unset]) rfl k) ?_
          refine own_st (f' := (mkF m 162 #[.val (.int p0), .val (.int p1), .val (.int p2), .val (.long q3), .second, .val (.long q4), .second, .val (.int (own_t0_3 p0 p1 p2 q3 q4)), .val (.int (own_t0_16 p0 p1 p2 q3 q4)), .val (.ref bm113), .val (.ref bm114), .val (.ref b115), .val (.ref b163), .val (.ref b177), .unset, .unset] [(.int p0)])) (fun t k => XS.iloadN X178.her hx rfl (hb hby at_161) rfl k) ?_
          refine own_st (f' := (mkF m 163 #[.val (.int p0), .val (.int p1), .val (.int p2), .val (.long q3), .second, .val (.long q4), .second, .val (.int (own_t0_3 p0 p1 p2 q3 q4)), .val (.int (own_t0_16 p0 p1 p2 q3 q4)), .val (.ref bm113), .val (.ref bm114), .val (.ref b115), .val (.ref b163), .val (.ref b177), .unset, .unset] [(.long (p0.toInt64))])) (fun t k => XS.i2l X178.her hx rfl (hb hby at_162) rfl k) ?_
          refine own_st (f' := (mkF m 165 #[.val (.int p0), .val (.int p1), .val (.int p2), .val (.long q3), .second, .val (.long q4), .second, .val (.int (own_t0_3 p0 p1 p2 q3 q4)), .val (.int (own_t0_16 p0 p1 p2 q3 q4)), .val (.ref bm113), .val (.ref bm114), .val (.ref b115), .val (.ref b163), .val (.ref b177), .unset, .unset] [(.int (own_t0_3 p0 p1 p2 q3 q4)), (.long (p0.toInt64))])) (fun t k => XS.iload X178.her hx rfl (hb hby at_163) rfl k) ?_
          refine own_st (f' := (mkF m 166 #[.val (.int p0), .val (.int p1), .val (.int p2), .val (.long q3), .second, .val (.long q4), .second, .val (.int (own_t0_3 p0 p1 p2 q3 q4)), .val (.int (own_t0_16 p0 p1 p2 q3 q4)), .val (.ref bm113), .val (.ref bm114), .val (.ref b115), .val (.ref b163), .val (.ref b177), .unset, .unset] [(.long ((own_t0_3 p0 p1 p2 q3 q4).toInt64)), (.long (p0.toInt64))])) (fun t k => XS.i2l X178.her hx rfl (hb hby at_165) rfl k) ?_
          refine own_st (f' := (mkF m 167 #[.val (.int p0), .val (.int p1), .val (.int p2), .val (.long q3), .second, .val (.long q4), .second, .val (.int (own_t0_3 p0 p1 p2 q3 q4)), .val (.int (own_t0_16 p0 p1 p2 q3 q4)), .val (.ref bm113), .val (.ref bm114), .val (.ref b115), .val (.ref b163), .val (.ref b177), .unset, .unset] [(.long ((p0.toInt64) + ((own_t0_3 p0 p1 p2 q3 q4).toInt64)))])) (fun t k => XS.ladd X178.her hx rfl (hb hby at_166) rfl k) ?_
          refine own_st (f' := (mkF m 169 #[.val (.int p0), .val (.int p1), .val (.int p2), .val (.long q3), .second, .val (.long q4), .second, .val (.int (own_t0_3 p0 p1 p2 q3 q4)), .val (.int (own_t0_16 p0 p1 p2 q3 q4)), .val (.ref bm113), .val (.ref bm114), .val (.ref b115), .val (.ref b163), .val (.ref b177), .val (.long (own_t0_167 p0 p1 p2 q3 q4)), .second] [])) (fun t k => XS.lstore X178.her hx rfl (hb hby at_167) rfl (l' := #[.val (.int p0), .val (.int p1), .val (.int p2), .val (.long q3), .second, .val (.long q4), .second, .val (.int (own_t0_3 p0 p1 p2 q3 q4)), .val (.int (own_t0_16 p0 p1 p2 q3 q4)), .val (.ref bm113), .val (.ref bm114), .val (.ref b115), .val (.ref b163), .val (.ref b177), .val (.long (own_t0_167 p0 p1 p2 q3 q4)), .second]) rfl k) ?_
          refine own_st (f' := (mkF m 171 #[.val (.int p0), .val (.int p1), .val (.int p2), .val (.long q3), .second, .val (.long q4), .second, .val (.int (own_t0_3 p0 p1 p2 q3 q4)), .val (.int (own_t0_16 p0 p1 p2 q3 q4)), .val (.ref bm113), .val (.ref bm114), .val (.ref b115), .val (.ref b163), .val (.ref b177), .val (.long (own_t0_167 p0 p1 p2 q3 q4)), .second] [(.ref b177)])) (fun t k => XS.aload X178.her hx rfl (hb hby at_169) rfl rfl k) ?_
          refine own_callVP (y := (⟨"com/example/bidwright/bidwright/allocation/Supply", "most", "()J"⟩ : MethodName)) (W := 0) [] X178 hx hZ hown (own_w132 hw) (own_w133 hw) (own_w135 hw) (own_w134 hw) (own_w77 hw) (own_w136 hw) (by decide) Ax178 (own_c22 l Z a0 hw h178 n0 Zn178 b177 p0 (2 : Int32) bt178 _ Fh178 Fc178 Bt178 (by rw [hl178]; rfl)) (by decide) (by decide) (by decide) (by decide) (by rw [hml]; rfl) own_pd11 rfl rfl (Nat.le_of_eq rfl) (hb hby at_171) ?_
          intro T179 X179
          show own_G p e below _ T179 (mkF m 174 #[.val (.int p0), .val (.int p1), .val (.int p2), .val (.long q3), .second, .val (.long q4), .second, .val (.int (own_t0_3 p0 p1 p2 q3 q4)), .val (.int (own_t0_16 p0 p1 p2 q3 q4)), .val (.ref bm113), .val (.ref bm114), .val (.ref b115), .val (.ref b163), .val (.ref b177), .val (.long (own_t0_167 p0 p1 p2 q3 q4)), .second] [(.long ((p0.toInt64 + (2 : Int32).toInt64) - 1))])
          refine own_st (f' := (mkF m 176 #[.val (.int p0), .val (.int p1), .val (.int p2), .val (.long q3), .second, .val (.long q4), .second, .val (.int (own_t0_3 p0 p1 p2 q3 q4)), .val (.int (own_t0_16 p0 p1 p2 q3 q4)), .val (.ref bm113), .val (.ref bm114), .val (.ref b115), .val (.ref b163), .val (.ref b177), .val (.long (own_t0_167 p0 p1 p2 q3 q4)), .second] [(.long (own_t0_167 p0 p1 p2 q3 q4)), (.long ((p0.toInt64 + (2 : Int32).toInt64) - 1))])) (fun t k => XS.lload X179.her hx rfl (hb hby at_174) rfl k) ?_
          refine own_st (f' := (mkF m 177 #[.val (.int p0), .val (.int p1), .val (.int p2), .val (.long q3), .second, .val (.long q4), .second, .val (.int (own_t0_3 p0 p1 p2 q3 q4)), .val (.int (own_t0_16 p0 p1 p2 q3 q4)), .val (.ref bm113), .val (.ref bm114), .val (.ref b115), .val (.ref b163), .val (.ref b177), .val (.long (own_t0_167 p0 p1 p2 q3 q4)), .second] [(.int (lcmpW ((p0.toInt64 + (2 : Int32).toInt64) - 1) (own_t0_167 p0 p1 p2 q3 q4)))])) (fun t k => XS.lcmp X179.her hx rfl (hb hby at_176) rfl k) ?_
          refine own_st (f' := (mkF m 180 #[.val (.int p0), .val (.int p1), .val (.int p2), .val (.long q3), .second, .val (.long q4), .second, .val (.int (own_t0_3 p0 p1 p2 q3 q4)), .val (.int (own_t0_16 p0 p1 p2 q3 q4)), .val (.ref bm113), .val (.ref bm114), .val (.ref b115), .val (.ref b163), .val (.ref b177), .val (.long (own_t0_167 p0 p1 p2 q3 q4)), .second] [])) (fun t k => XS.ifNo X179.her hx rfl (hb hby at_177) rfl ((if0 _ _).trans (teq ((lw_eq _ _).mpr (own_fin _ _ _ (by rw [own_nb1 p0 p1 p2 q3 q4 hc117 hc119]; decide)) : (lcmpW ((p0.toInt64 + (2 : Int32).toInt64) - 1) (own_t0_167 p0 p1 p2 q3 q4)) = (0 : Int32))).2) k) ?_
          refine own_st (f' := (mkF m 181 #[.val (.int p0), .val (.int p1), .val (.int p2), .val (.long q3), .second, .val (.long q4), .second, .val (.int (own_t0_3 p0 p1 p2 q3 q4)), .val (.int (own_t0_16 p0 p1 p2 q3 q4)), .val (.ref bm113), .val (.ref bm114), .val (.ref b115), .val (.ref b163), .val (.ref b177), .val (.long (own_t0_167 p0 p1 p2 q3 q4)), .second] [(.int (1 : Int32))])) (fun t k => XS.iconst X179.her hx rfl (hb hby at_180) k) ?_
          refine own_st (f' := (mkF m 185 #[.val (.int p0), .val (.int p1), .val (.int p2), .val (.long q3), .second, .val (.long q4), .second, .val (.int (own_t0_3 p0 p1 p2 q3 q4)), .val (.int (own_t0_16 p0 p1 p2 q3 q4)), .val (.ref bm113), .val (.ref bm114), .val (.ref b115), .val (.ref b163), .val (.ref b177), .val (.long (own_t0_167 p0 p1 p2 q3 q4)), .second] [(.int (1 : Int32))])) (fun t k => XS.goto X179.her hx rfl (pc0 := 181) (pc' := 185) rfl (hb hby at_181) (by decide) (by decide) k) ?_
          refine own_retN (t := .boolean) X179 hx hret hlk (by simp) (hb hby at_185) (by first | decide | omega) (by first | decide | omega) ?_
          exact congrArg (fun q => some (Value.int q)) (by decide)
      · refine own_st (f' := (mkF m 119 #[.val (.int p0), .val (.int p1), .val (.int p2), .val (.long q3), .second, .val (.long q4), .second, .val (.int (own_t0_3 p0 p1 p2 q3 q4)), .val (.int (own_t0_16 p0 p1 p2 q3 q4)), .val (.ref bm113), .val (.ref bm114), .val (.ref b115), .val (.ref b163), .unset, .unset, .unset] [])) (fun t k => XS.ifYes X164.her hx rfl (pc0 := 108) (pc' := 119) rfl (hb hby at_108) rfl ((if0 _ _).trans (flt hc165).2.2.2) (by decide) (by decide) k) ?_
        refine own_st (f' := (mkF m 121 #[.val (.int p0), .val (.int p1), .val (.int p2), .val (.long q3), .second, .val (.long q4), .second, .val (.int (own_t0_3 p0 p1 p2 q3 q4)), .val (.int (own_t0_16 p0 p1 p2 q3 q4)), .val (.ref bm113), .val (.ref bm114), .val (.ref b115), .val (.ref b163), .unset, .unset, .unset] [(.int (own_t0_16 p0 p1 p2 q3 q4))])) (fun t k => XS.iload X164.her hx rfl (hb hby at_119) rfl k) ?_
        refine own_st (f' := (mkF m 122 #[.val (.int p0), .val (.int p1), .val (.int p2), .val (.long q3), .second, .val (.long q4), .second, .val (.int (own_t0_3 p0 p1 p2 q3 q4)), .val (.int (own_t0_16 p0 p1 p2 q3 q4)), .val (.ref bm113), .val (.ref bm114), .val (.ref b115), .val (.ref b163), .unset, .unset, .unset] [(.int (1 : Int32)), (.int (own_t0_16 p0 p1 p2 q3 q4))])) (fun t k => XS.iconst X164.her hx rfl (hb hby at_121) k) ?_
        refine own_st (f' := (mkF m 133 #[.val (.int p0), .val (.int p1), .val (.int p2), .val (.long q3), .second, .val (.long q4), .second, .val (.int (own_t0_3 p0 p1 p2 q3 q4)), .val (.int (own_t0_16 p0 p1 p2 q3 q4)), .val (.ref bm113), .val (.ref bm114), .val (.ref b115), .val (.ref b163), .unset, .unset, .unset] [])) (fun t k => XS.icmpYes X164.her hx rfl (pc0 := 122) (pc' := 133) rfl (hb hby at_122) rfl (flt (own_nl (by decide) hc165 : ¬ ((1 : Int32) < (own_t0_16 p0 p1 p2 q3 q4)))).2.2.2 (by decide) (by decide) k) ?_
        refine own_st (f' := (mkF m 135 #[.val (.int p0), .val (.int p1), .val (.int p2), .val (.long q3), .second, .val (.long q4), .second, .val (.int (own_t0_3 p0 p1 p2 q3 q4)), .val (.int (own_t0_16 p0 p1 p2 q3 q4)), .val (.ref bm113), .val (.ref bm114), .val (.ref b115), .val (.ref b163), .unset, .unset, .unset] [(.int (own_t0_16 p0 p1 p2 q3 q4))])) (fun t k => XS.iload X164.her hx rfl (hb hby at_133) rfl k) ?_
        refine own_st (f' := (mkF m 136 #[.val (.int p0), .val (.int p1), .val (.int p2), .val (.long q3), .second, .val (.long q4), .second, .val (.int (own_t0_3 p0 p1 p2 q3 q4)), .val (.int (own_t0_16 p0 p1 p2 q3 q4)), .val (.ref bm113), .val (.ref bm114), .val (.ref b115), .val (.ref b163), .unset, .unset, .unset] [(.int (2 : Int32)), (.int (own_t0_16 p0 p1 p2 q3 q4))])) (fun t k => XS.iconst X164.her hx rfl (hb hby at_135) k) ?_
        refine own_st (f' := (mkF m 147 #[.val (.int p0), .val (.int p1), .val (.int p2), .val (.long q3), .second, .val (.long q4), .second, .val (.int (own_t0_3 p0 p1 p2 q3 q4)), .val (.int (own_t0_16 p0 p1 p2 q3 q4)), .val (.ref bm113), .val (.ref bm114), .val (.ref b115), .val (.ref b163), .unset, .unset, .unset] [])) (fun t k => XS.icmpYes X164.her hx rfl (pc0 := 136) (pc' := 147) rfl (hb hby at_136) rfl (flt (own_nl (by decide) hc165 : ¬ ((2 : Int32) < (own_t0_16 p0 p1 p2 q3 q4)))).2.2.2 (by decide) (by decide) k) ?_
        refine own_newO X164 hx hZ hown (own_w75 hw) (own_w76 hw) (own_w77 hw) (hb hby at_147) (by decide) (by decide) ?_
        intro T180 h180 b180 g180 q180 X180 E180 A180 D180
        have lt_vd_b180 : vd < b180 := Nat.lt_of_lt_of_le B164_vd.lt (Nat.le_of_eq g180.symm)
        have ne_vd_b180 : vd ≠ b180 := Nat.ne_of_lt (Nat.lt_of_lt_of_le B164_vd.lt (Nat.le_of_eq g180.symm))
        have B180_vd := B164_vd.ext E180
        have lt_bg118_b180 : bg118 < b180 := Nat.lt_of_lt_of_le B164_bg118.lt (Nat.le_of_eq g180.symm)
        have ne_bg118_b180 : bg118 ≠ b180 := Nat.ne_of_lt (Nat.lt_of_lt_of_le B164_bg118.lt (Nat.le_of_eq g180.symm))
        have B180_bg118 := B164_bg118.ext E180
        have lt_bm113_b180 : bm113 < b180 := Nat.lt_of_lt_of_le A164_bm113.lt (Nat.le_of_eq g180.symm)
        have ne_bm113_b180 : bm113 ≠ b180 := Nat.ne_of_lt (Nat.lt_of_lt_of_le A164_bm113.lt (Nat.le_of_eq g180.symm))
        have A180_bm113 := A164_bm113.ext E180
        have lt_bm114_b180 : bm114 < b180 := Nat.lt_of_lt_of_le A164_bm114.lt (Nat.le_of_eq g180.symm)
        have ne_bm114_b180 : bm114 ≠ b180 := Nat.ne_of_lt (Nat.lt_of_lt_of_le A164_bm114.lt (Nat.le_of_eq g180.symm))
        have A180_bm114 := A164_bm114.ext E180
        have lt_b115_b180 : b115 < b180 := Nat.lt_of_lt_of_le A164_b115.lt (Nat.le_of_eq g180.symm)
        have ne_b115_b180 : b115 ≠ b180 := Nat.ne_of_lt (Nat.lt_of_lt_of_le A164_b115.lt (Nat.le_of_eq g180.symm))
        have A180_b115 := A164_b115.ext E180
        have lt_b163_b180 : b163 < b180 := Nat.lt_of_lt_of_le Ea164.lt (Nat.le_of_eq g180.symm)
        have ne_b163_b180 : b163 ≠ b180 := Nat.ne_of_lt (Nat.lt_of_lt_of_le Ea164.lt (Nat.le_of_eq g180.symm))
        have A180_b163 := Ea164.ext E180
        have F180_bm113_cents := F164_bm113_cents.ext E180
        have F180_bm114_cents := F164_bm114_cents.ext E180
        have F180_b115_modCount := F164_b115_modCount.ext E180
        have F180_b115_elementData := F164_b115_elementData.ext E180
        have F180_b115_size := F164_b115_size.ext E180
        have F180_b163_modCount := Fm164.ext E180
        have F180_b163_elementData := Fe164.ext E180
        have F180_b163_size := Fs164.ext E180
        have S180_DEFAULTCAPACITY_EMPTY_ELEMENTDATA := Sk164.ext E180
        have ga_b180 : n0 ≤ b180 := Nat.le_trans Z0 q180
        have Zn180 : n0 ≤ h180.size := Nat.le_trans Zn164 E180.1
        have F180_held : Fld Z h180 b180 "com/example/bidwright/bidwright/allocation/Supply" "held" "I" (.int (0 : Int32)) := D180 (Or.inr (own_w83 hw)) (ty := .int) (by decide)
        have F180_costs : Fld Z h180 b180 "com/example/bidwright/bidwright/allocation/Supply" "costs" "[J" .null := D180 (Or.inr (own_w129 hw)) (ty := (.array .long)) (by decide)
        have F180_revenues : Fld Z h180 b180 "com/example/bidwright/bidwright/allocation/Supply" "revenues" "[J" .null := D180 (Or.inr (own_w131 hw)) (ty := (.array .long)) (by decide)
        refine own_st (f' := (mkF m 151 #[.val (.int p0), .val (.int p1), .val (.int p2), .val (.long q3), .second, .val (.long q4), .second, .val (.int (own_t0_3 p0 p1 p2 q3 q4)), .val (.int (own_t0_16 p0 p1 p2 q3 q4)), .val (.ref bm113), .val (.ref bm114), .val (.ref b115), .val (.ref b163), .unset, .unset, .unset] [(.ref b180), (.ref b180)])) (fun t k => XS.dup X180.her hx rfl (hb hby at_150) rfl rfl k) ?_
        refine own_st (f' := (mkF m 152 #[.val (.int p0), .val (.int p1), .val (.int p2), .val (.long q3), .second, .val (.long q4), .second, .val (.int (own_t0_3 p0 p1 p2 q3 q4)), .val (.int (own_t0_16 p0 p1 p2 q3 q4)), .val (.ref bm113), .val (.ref bm114), .val (.ref b115), .val (.ref b163), .unset, .unset, .unset] [(.int p0), (.ref b180), (.ref b180)])) (fun t k => XS.iloadN X180.her hx rfl (hb hby at_151) rfl k) ?_
        refine own_st (f' := (mkF m 154 #[.val (.int p0), .val (.int p1), .val (.int p2), .val (.long q3), .second, .val (.long q4), .second, .val (.int (own_t0_3 p0 p1 p2 q3 q4)), .val (.int (own_t0_16 p0 p1 p2 q3 q4)), .val (.ref bm113), .val (.ref bm114), .val (.ref b115), .val (.ref b163), .unset, .unset, .unset] [(.ref b115), (.int p0), (.ref b180), (.ref b180)])) (fun t k => XS.aload X180.her hx rfl (hb hby at_152) rfl rfl k) ?_
        refine own_st (f' := (mkF m 156 #[.val (.int p0), .val (.int p1), .val (.int p2), .val (.long q3), .second, .val (.long q4), .second, .val (.int (own_t0_3 p0 p1 p2 q3 q4)), .val (.int (own_t0_16 p0 p1 p2 q3 q4)), .val (.ref bm113), .val (.ref bm114), .val (.ref b115), .val (.ref b163), .unset, .unset, .unset] [(.ref b163), (.ref b115), (.int p0), (.ref b180), (.ref b180)])) (fun t k => XS.aload X180.her hx rfl (hb hby at_154) rfl rfl k) ?_
        have LS181_2 : own_LS Z h180 b180 b115 [(bm113, (own_t0_27 p0 p1 p2 q3 q4))] := ⟨lt_b115_b180, A180_b115, F180_b115_size, (Or.inr ⟨bg118, lt_bg118_b180, F180_b115_elementData, B180_bg118⟩), (own_qS ⟨lt_bm113_b180, A180_bm113, F180_bm113_cents, own_am27 p0 p1 p2 q3 q4⟩ own_q0)⟩
        have LS181_3 : own_LS Z h180 b180 b163 [] := ⟨lt_b163_b180, A180_b163, F180_b163_size, (Or.inl rfl), own_q0⟩
        refine own_callC (y := (⟨"com/example/bidwright/bidwright/allocation/Supply", "<init>", "(ILjava/util/List;Ljava/util/List;)V"⟩ : MethodName)) (W := 1) [(.int p0), (.ref b115), (.ref b163)] X180 hx hZ hown rfl (own_w78 hw) (own_w79 hw) (own_w77 hw) (own_w80 hw) (by decide) (own_c13 l Z a0 hw h180 n0 Zn180 b180 p0 b115 b163 b180 _ _ A180 F180_held F180_costs F180_revenues ga_b180 (Nat.le_refl _) LS181_2 LS181_3 (by show 1 ≤ 3; decide) (by show 0 ≤ 3; decide)) (allS (Or.inr q180) all0) (by decide) (by decide) (by decide) (by decide) (by rw [hml]; rfl) own_pd14 rfl rfl (Nat.le_of_eq rfl) (hb hby at_156) ?_
        rintro v181 T181 h181 X181 K181 ⟨rfl, Ax181, Fh181, bt181, La181, Fc181, Bt181, hl181⟩
        have B181_vd := B180_vd.keep K181 (ninS ne_vd_b180 nin0)
        have B181_bg118 := B180_bg118.keep K181 (ninS ne_bg118_b180 nin0)
        have F181_bm113_cents := F180_bm113_cents.keep K181 (ninS ne_bm113_b180 nin0)
        have F181_bm114_cents := F180_bm114_cents.keep K181 (ninS ne_bm114_b180 nin0)
        have F181_b115_modCount := F180_b115_modCount.keep K181 (ninS ne_b115_b180 nin0)
        have F181_b115_elementData := F180_b115_elementData.keep K181 (ninS ne_b115_b180 nin0)
        have F181_b115_size := F180_b115_size.keep K181 (ninS ne_b115_b180 nin0)
        have F181_b163_modCount := F180_b163_modCount.keep K181 (ninS ne_b163_b180 nin0)
        have F181_b163_elementData := F180_b163_elementData.keep K181 (ninS ne_b163_b180 nin0)
        have F181_b163_size := F180_b163_size.keep K181 (ninS ne_b163_b180 nin0)
        have A181_bm113 := A180_bm113.keep K181
        have A181_bm114 := A180_bm114.keep K181
        have A181_b115 := A180_b115.keep K181
        have A181_b163 := A180_b163.keep K181
        have A181_b180 := A180.keep K181
        have Zn181 : n0 ≤ h181.size := Nat.le_trans Zn180 K181.1
        show own_G p e below _ T181 (mkF m 159 #[.val (.int p0), .val (.int p1), .val (.int p2), .val (.long q3), .second, .val (.long q4), .second, .val (.int (own_t0_3 p0 p1 p2 q3 q4)), .val (.int (own_t0_16 p0 p1 p2 q3 q4)), .val (.ref bm113), .val (.ref bm114), .val (.ref b115), .val (.ref b163), .unset, .unset, .unset] [(.ref b180)])
        refine own_st (f' := (mkF m 161 #[.val (.int p0), .val (.int p1), .val (.int p2), .val (.long q3), .second, .val (.long q4), .second, .val (.int (own_t0_3 p0 p1 p2 q3 q4)), .val (.int (own_t0_16 p0 p1 p2 q3 q4)), .val (.ref bm113), .val (.ref bm114), .val (.ref b115), .val (.ref b163), .val (.ref b180), .unset, .unset] [])) (fun t k => XS.astore X181.her hx rfl (hb hby at_159) rfl rfl (l' := #[.val (.int p0), .val (.int p1), .val (.int p2), .val (.long q3), .second, .val (.long q4), .second, .val (.int (own_t0_3 p0 p1 p2 q3 q4)), .val (.int (own_t0_16 p0 p1 p2 q3 q4)), .val (.ref bm113), .val (.ref bm114), .val (.ref b115), .val (.ref b163), .val (.ref b180), .unset, .unset]) rfl k) ?_
        refine own_st (f' := (mkF m 162 #[.val (.int p0), .val (.int p1), .val (.int p2), .val (.long q3), .second, .val (.long q4), .second, .val (.int (own_t0_3 p0 p1 p2 q3 q4)), .val (.int (own_t0_16 p0 p1 p2 q3 q4)), .val (.ref bm113), .val (.ref bm114), .val (.ref b115), .val (.ref b163), .val (.ref b180), .unset, .unset] [(.int p0)])) (fun t k => XS.iloadN X181.her hx rfl (hb hby at_161) rfl k) ?_
        refine own_st (f' := (mkF m 163 #[.val (.int p0), .val (.int p1), .val (.int p2), .val (.long q3), .second, .val (.long q4), .second, .val (.int (own_t0_3 p0 p1 p2 q3 q4)), .val (.int (own_t0_16 p0 p1 p2 q3 q4)), .val (.ref bm113), .val (.ref bm114), .val (.ref b115), .val (.ref b163), .val (.ref b180), .unset, .unset] [(.long (p0.toInt64))])) (fun t k => XS.i2l X181.her hx rfl (hb hby at_162) rfl k) ?_
        refine own_st (f' := (mkF m 165 #[.val (.int p0), .val (.int p1), .val (.int p2), .val (.long q3), .second, .val (.long q4), .second, .val (.int (own_t0_3 p0 p1 p2 q3 q4)), .val (.int (own_t0_16 p0 p1 p2 q3 q4)), .val (.ref bm113), .val (.ref bm114), .val (.ref b115), .val (.ref b163), .val (.ref b180), .unset, .unset] [(.int (own_t0_3 p0 p1 p2 q3 q4)), (.long (p0.toInt64))])) (fun t k => XS.iload X181.her hx rfl (hb hby at_163) rfl k) ?_
        refine own_st (f' := (mkF m 166 #[.val (.int p0), .val (.int p1), .val (.int p2), .val (.long q3), .second, .val (.long q4), .second, .val (.int (own_t0_3 p0 p1 p2 q3 q4)), .val (.int (own_t0_16 p0 p1 p2 q3 q4)), .val (.ref bm113), .val (.ref bm114), .val (.ref b115), .val (.ref b163), .val (.ref b180), .unset, .unset] [(.long ((own_t0_3 p0 p1 p2 q3 q4).toInt64)), (.long (p0.toInt64))])) (fun t k => XS.i2l X181.her hx rfl (hb hby at_165) rfl k) ?_
        refine own_st (f' := (mkF m 167 #[.val (.int p0), .val (.int p1), .val (.int p2), .val (.long q3), .second, .val (.long q4), .second, .val (.int (own_t0_3 p0 p1 p2 q3 q4)), .val (.int (own_t0_16 p0 p1 p2 q3 q4)), .val (.ref bm113), .val (.ref bm114), .val (.ref b115), .val (.ref b163), .val (.ref b180), .unset, .unset] [(.long ((p0.toInt64) + ((own_t0_3 p0 p1 p2 q3 q4).toInt64)))])) (fun t k => XS.ladd X181.her hx rfl (hb hby at_166) rfl k) ?_
        refine own_st (f' := (mkF m 169 #[.val (.int p0), .val (.int p1), .val (.int p2), .val (.long q3), .second, .val (.long q4), .second, .val (.int (own_t0_3 p0 p1 p2 q3 q4)), .val (.int (own_t0_16 p0 p1 p2 q3 q4)), .val (.ref bm113), .val (.ref bm114), .val (.ref b115), .val (.ref b163), .val (.ref b180), .val (.long (own_t0_167 p0 p1 p2 q3 q4)), .second] [])) (fun t k => XS.lstore X181.her hx rfl (hb hby at_167) rfl (l' := #[.val (.int p0), .val (.int p1), .val (.int p2), .val (.long q3), .second, .val (.long q4), .second, .val (.int (own_t0_3 p0 p1 p2 q3 q4)), .val (.int (own_t0_16 p0 p1 p2 q3 q4)), .val (.ref bm113), .val (.ref bm114), .val (.ref b115), .val (.ref b163), .val (.ref b180), .val (.long (own_t0_167 p0 p1 p2 q3 q4)), .second]) rfl k) ?_
        refine own_st (f' := (mkF m 171 #[.val (.int p0), .val (.int p1), .val (.int p2), .val (.long q3), .second, .val (.long q4), .second, .val (.int (own_t0_3 p0 p1 p2 q3 q4)), .val (.int (own_t0_16 p0 p1 p2 q3 q4)), .val (.ref bm113), .val (.ref bm114), .val (.ref b115), .val (.ref b163), .val (.ref b180), .val (.long (own_t0_167 p0 p1 p2 q3 q4)), .second] [(.ref b180)])) (fun t k => XS.aload X181.her hx rfl (hb hby at_169) rfl rfl k) ?_
        refine own_callVP (y := (⟨"com/example/bidwright/bidwright/allocation/Supply", "most", "()J"⟩ : MethodName)) (W := 0) [] X181 hx hZ hown (own_w132 hw) (own_w133 hw) (own_w135 hw) (own_w134 hw) (own_w77 hw) (own_w136 hw) (by decide) Ax181 (own_c22 l Z a0 hw h181 n0 Zn181 b180 p0 (2 : Int32) bt181 _ Fh181 Fc181 Bt181 (by rw [hl181]; rfl)) (by decide) (by decide) (by decide) (by decide) (by rw [hml]; rfl) own_pd11 rfl rfl (Nat.le_of_eq rfl) (hb hby at_171) ?_
        intro T182 X182
        show own_G p e below _ T182 (mkF m 174 #[.val (.int p0), .val (.int p1), .val (.int p2), .val (.long q3), .second, .val (.long q4), .second, .val (.int (own_t0_3 p0 p1 p2 q3 q4)), .val (.int (own_t0_16 p0 p1 p2 q3 q4)), .val (.ref bm113), .val (.ref bm114), .val (.ref b115), .val (.ref b163), .val (.ref b180), .val (.long (own_t0_167 p0 p1 p2 q3 q4)), .second] [(.long ((p0.toInt64 + (2 : Int32).toInt64) - 1))])
        refine own_st (f' := (mkF m 176 #[.val (.int p0), .val (.int p1), .val (.int p2), .val (.long q3), .second, .val (.long q4), .second, .val (.int (own_t0_3 p0 p1 p2 q3 q4)), .val (.int (own_t0_16 p0 p1 p2 q3 q4)), .val (.ref bm113), .val (.ref bm114), .val (.ref b115), .val (.ref b163), .val (.ref b180), .val (.long (own_t0_167 p0 p1 p2 q3 q4)), .second] [(.long (own_t0_167 p0 p1 p2 q3 q4)), (.long ((p0.toInt64 + (2 : Int32).toInt64) - 1))])) (fun t k => XS.lload X182.her hx rfl (hb hby at_174) rfl k) ?_
        refine own_st (f' := (mkF m 177 #[.val (.int p0), .val (.int p1), .val (.int p2), .val (.long q3), .second, .val (.long q4), .second, .val (.int (own_t0_3 p0 p1 p2 q3 q4)), .val (.int (own_t0_16 p0 p1 p2 q3 q4)), .val (.ref bm113), .val (.ref bm114), .val (.ref b115), .val (.ref b163), .val (.ref b180), .val (.long (own_t0_167 p0 p1 p2 q3 q4)), .second] [(.int (lcmpW ((p0.toInt64 + (2 : Int32).toInt64) - 1) (own_t0_167 p0 p1 p2 q3 q4)))])) (fun t k => XS.lcmp X182.her hx rfl (hb hby at_176) rfl k) ?_
        refine own_st (f' := (mkF m 180 #[.val (.int p0), .val (.int p1), .val (.int p2), .val (.long q3), .second, .val (.long q4), .second, .val (.int (own_t0_3 p0 p1 p2 q3 q4)), .val (.int (own_t0_16 p0 p1 p2 q3 q4)), .val (.ref bm113), .val (.ref bm114), .val (.ref b115), .val (.ref b163), .val (.ref b180), .val (.long (own_t0_167 p0 p1 p2 q3 q4)), .second] [])) (fun t k => XS.ifNo X182.her hx rfl (hb hby at_177) rfl ((if0 _ _).trans (teq ((lw_eq _ _).mpr (own_fin _ _ _ (by rw [own_nb1 p0 p1 p2 q3 q4 hc117 hc119]; decide)) : (lcmpW ((p0.toInt64 + (2 : Int32).toInt64) - 1) (own_t0_167 p0 p1 p2 q3 q4)) = (0 : Int32))).2) k) ?_
        refine own_st (f' := (mkF m 181 #[.val (.int p0), .val (.int p1), .val (.int p2), .val (.long q3), .second, .val (.long q4), .second, .val (.int (own_t0_3 p0 p1 p2 q3 q4)), .val (.int (own_t0_16 p0 p1 p2 q3 q4)), .val (.ref bm113), .val (.ref bm114), .val (.ref b115), .val (.ref b163), .val (.ref b180), .val (.long (own_t0_167 p0 p1 p2 q3 q4)), .second] [(.int (1 : Int32))])) (fun t k => XS.iconst X182.her hx rfl (hb hby at_180) k) ?_
        refine own_st (f' := (mkF m 185 #[.val (.int p0), .val (.int p1), .val (.int p2), .val (.long q3), .second, .val (.long q4), .second, .val (.int (own_t0_3 p0 p1 p2 q3 q4)), .val (.int (own_t0_16 p0 p1 p2 q3 q4)), .val (.ref bm113), .val (.ref bm114), .val (.ref b115), .val (.ref b163), .val (.ref b180), .val (.long (own_t0_167 p0 p1 p2 q3 q4)), .second] [(.int (1 : Int32))])) (fun t k => XS.goto X182.her hx rfl (pc0 := 181) (pc' := 185) rfl (hb hby at_181) (by decide) (by decide) k) ?_
        refine own_retN (t := .boolean) X182 hx hret hlk (by simp) (hb hby at_185) (by first | decide | omega) (by first | decide | omega) ?_
        exact congrArg (fun q => some (Value.int q)) (by decide)
  · refine own_st (f' := (mkF m 69 #[.val (.int p0), .val (.int p1), .val (.int p2), .val (.long q3), .second, .val (.long q4), .second, .val (.int (own_t0_3 p0 p1 p2 q3 q4)), .val (.int (own_t0_16 p0 p1 p2 q3 q4)), .val (.ref bm113), .val (.ref bm114), .val (.ref b115), .unset, .unset, .unset, .unset] [])) (fun t k => XS.ifYes X116.her hx rfl (pc0 := 58) (pc' := 69) rfl (hb hby at_58) rfl ((if0 _ _).trans (flt hc117).2.2.2) (by decide) (by decide) k) ?_
    refine own_st (f' := (mkF m 71 #[.val (.int p0), .val (.int p1), .val (.int p2), .val (.long q3), .second, .val (.long q4), .second, .val (.int (own_t0_3 p0 p1 p2 q3 q4)), .val (.int (own_t0_16 p0 p1 p2 q3 q4)), .val (.ref bm113), .val (.ref bm114), .val (.ref b115), .unset, .unset, .unset, .unset] [(.int (own_t0_3 p0 p1 p2 q3 q4))])) (fun t k => XS.iload X116.her hx rfl (hb hby at_69) rfl k) ?_
    refine own_st (f' := (mkF m 72 #[.val (.int p0), .val (.int p1), .val (.int p2), .val (.long q3), .second, .val (.long q4), .second, .val (.int (own_t0_3 p0 p1 p2 q3 q4)), .val (.int (own_t0_16 p0 p1 p2 q3 q4)), .val (.ref bm113), .val (.ref bm114), .val (.ref b115), .unset, .unset, .unset, .unset] [(.int (1 : Int32)), (.int (own_t0_3 p0 p1 p2 q3 q4))])) (fun t k => XS.iconst X116.her hx rfl (hb hby at_71) k) ?_
    refine own_st (f' := (mkF m 83 #[.val (.int p0), .val (.int p1), .val (.int p2), .val (.long q3), .second, .val (.long q4), .second, .val (.int (own_t0_3 p0 p1 p2 q3 q4)), .val (.int (own_t0_16 p0 p1 p2 q3 q4)), .val (.ref bm113), .val (.ref bm114), .val (.ref b115), .unset, .unset, .unset, .unset] [])) (fun t k => XS.icmpYes X116.her hx rfl (pc0 := 72) (pc' := 83) rfl (hb hby at_72) rfl (flt (own_nl (by decide) hc117 : ¬ ((1 : Int32) < (own_t0_3 p0 p1 p2 q3 q4)))).2.2.2 (by decide) (by decide) k) ?_
    refine own_st (f' := (mkF m 85 #[.val (.int p0), .val (.int p1), .val (.int p2), .val (.long q3), .second, .val (.long q4), .second, .val (.int (own_t0_3 p0 p1 p2 q3 q4)), .val (.int (own_t0_16 p0 p1 p2 q3 q4)), .val (.ref bm113), .val (.ref bm114), .val (.ref b115), .unset, .unset, .unset, .unset] [(.int (own_t0_3 p0 p1 p2 q3 q4))])) (fun t k => XS.iload X116.her hx rfl (hb hby at_83) rfl k) ?_
    refine own_st (f' := (mkF m 86 #[.val (.int p0), .val (.int p1), .val (.int p2), .val (.long q3), .second, .val (.long q4), .second, .val (.int (own_t0_3 p0 p1 p2 q3 q4)), .val (.int (own_t0_16 p0 p1 p2 q3 q4)), .val (.ref bm113), .val (.ref bm114), .val (.ref b115), .unset, .unset, .unset, .unset] [(.int (2 : Int32)), (.int (own_t0_3 p0 p1 p2 q3 q4))])) (fun t k => XS.iconst X116.her hx rfl (hb hby at_85) k) ?_
    refine own_st (f' := (mkF m 97 #[.val (.int p0), .val (.int p1), .val (.int p2), .val (.long q3), .second, .val (.long q4), .second, .val (.int (own_t0_3 p0 p1 p2 q3 q4)), .val (.int (own_t0_16 p0 p1 p2 q3 q4)), .val (.ref bm113), .val (.ref bm114), .val (.ref b115), .unset, .unset, .unset, .unset] [])) (fun t k => XS.icmpYes X116.her hx rfl (pc0 := 86) (pc' := 97) rfl (hb hby at_86) rfl (flt (own_nl (by decide) hc117 : ¬ ((2 : Int32) < (own_t0_3 p0 p1 p2 q3 q4)))).2.2.2 (by decide) (by decide) k) ?_
    refine own_newO X116 hx hZ hown (own_w23 hw) (own_w24 hw) (own_w25 hw) (hb hby at_97) (by decide) (by decide) ?_
    intro T183 h183 b183 g183 q183 X183 E183 A183 D183
    have lt_vd_b183 : vd < b183 := Nat.lt_of_lt_of_le B116_vd.lt (Nat.le_of_eq g183.symm)
    have ne_vd_b183 : vd ≠ b183 := Nat.ne_of_lt (Nat.lt_of_lt_of_le B116_vd.lt (Nat.le_of_eq g183.symm))
    have B183_vd := B116_vd.ext E183
    have lt_bm113_b183 : bm113 < b183 := Nat.lt_of_lt_of_le A116_bm113.lt (Nat.le_of_eq g183.symm)
    have ne_bm113_b183 : bm113 ≠ b183 := Nat.ne_of_lt (Nat.lt_of_lt_of_le A116_bm113.lt (Nat.le_of_eq g183.symm))
    have A183_bm113 := A116_bm113.ext E183
    have lt_bm114_b183 : bm114 < b183 := Nat.lt_of_lt_of_le A116_bm114.lt (Nat.le_of_eq g183.symm)
    have ne_bm114_b183 : bm114 ≠ b183 := Nat.ne_of_lt (Nat.lt_of_lt_of_le A116_bm114.lt (Nat.le_of_eq g183.symm))
    have A183_bm114 := A116_bm114.ext E183
    have lt_b115_b183 : b115 < b183 := Nat.lt_of_lt_of_le Ea116.lt (Nat.le_of_eq g183.symm)
    have ne_b115_b183 : b115 ≠ b183 := Nat.ne_of_lt (Nat.lt_of_lt_of_le Ea116.lt (Nat.le_of_eq g183.symm))
    have A183_b115 := Ea116.ext E183
    have F183_bm113_cents := F116_bm113_cents.ext E183
    have F183_bm114_cents := F116_bm114_cents.ext E183
    have F183_b115_modCount := Fm116.ext E183
    have F183_b115_elementData := Fe116.ext E183
    have F183_b115_size := Fs116.ext E183
    have S183_DEFAULTCAPACITY_EMPTY_ELEMENTDATA := Sk116.ext E183
    have ga_b183 : n0 ≤ b183 := Nat.le_trans Z0 q183
    have Zn183 : n0 ≤ h183.size := Nat.le_trans Zn116 E183.1
    have F183_modCount : Fld Z h183 b183 "java/util/AbstractList" "modCount" "I" (.int (0 : Int32)) := D183 (Or.inl (own_w43 hw)) (ty := .int) (by decide)
    have F183_elementData : Fld Z h183 b183 "java/util/ArrayList" "elementData" "[Ljava/lang/Object;" .null := D183 (Or.inl (own_w46 hw)) (ty := (.array (.object "java/lang/Object"))) (by decide)
    have F183_size : Fld Z h183 b183 "java/util/ArrayList" "size" "I" (.int (0 : Int32)) := D183 (Or.inl (own_w55 hw)) (ty := .int) (by decide)
    refine own_st (f' := (mkF m 101 #[.val (.int p0), .val (.int p1), .val (.int p2), .val (.long q3), .second, .val (.long q4), .second, .val (.int (own_t0_3 p0 p1 p2 q3 q4)), .val (.int (own_t0_16 p0 p1 p2 q3 q4)), .val (.ref bm113), .val (.ref bm114), .val (.ref b115), .unset, .unset, .unset, .unset] [(.ref b183), (.ref b183)])) (fun t k => XS.dup X183.her hx rfl (hb hby at_100) rfl rfl k) ?_
    refine own_callC (y := (⟨"java/util/ArrayList", "<init>", "()V"⟩ : MethodName)) (W := 1) [] X183 hx hZ hown rfl (own_w26 hw) (own_w27 hw) (own_w25 hw) (own_w28 hw) (by decide) (own_c6 l Z a0 hw h183 n0 Zn183 b183 vd A183 F183_size F183_elementData F183_modCount ga_b183 S183_DEFAULTCAPACITY_EMPTY_ELEMENTDATA) (allS (Or.inr q183) all0) (by decide) (by decide) (by decide) (by decide) (by rw [hml]; rfl) own_pd1 rfl rfl (Nat.le_of_eq rfl) (hb hby at_101) ?_
    rintro v184 T184 h184 X184 K184 ⟨rfl, Ea184, Fs184, Fe184, Fm184⟩
    have B184_vd := B183_vd.keep K184 (ninS ne_vd_b183 nin0)
    have F184_bm113_cents := F183_bm113_cents.keep K184 (ninS ne_bm113_b183 nin0)
    have F184_bm114_cents := F183_bm114_cents.keep K184 (ninS ne_bm114_b183 nin0)
    have F184_b115_modCount := F183_b115_modCount.keep K184 (ninS ne_b115_b183 nin0)
    have F184_b115_elementData := F183_b115_elementData.keep K184 (ninS ne_b115_b183 nin0)
    have F184_b115_size := F183_b115_size.keep K184 (ninS ne_b115_b183 nin0)
    have A184_bm113 := A183_bm113.keep K184
    have A184_bm114 := A183_bm114.keep K184
    have A184_b115 := A183_b115.keep K184
    have A184_b183 := A183.keep K184
    have Zn184 : n0 ≤ h184.size := Nat.le_trans Zn183 K184.1
    have Sk184 := own_Sta_keep S183_DEFAULTCAPACITY_EMPTY_ELEMENTDATA K184 (allS (own_exa_ns A183) all0)
    show own_G p e below _ T184 (mkF m 104 #[.val (.int p0), .val (.int p1), .val (.int p2), .val (.long q3), .second, .val (.long q4), .second, .val (.int (own_t0_3 p0 p1 p2 q3 q4)), .val (.int (own_t0_16 p0 p1 p2 q3 q4)), .val (.ref bm113), .val (.ref bm114), .val (.ref b115), .unset, .unset, .unset, .unset] [(.ref b183)])
    refine own_st (f' := (mkF m 106 #[.val (.int p0), .val (.int p1), .val (.int p2), .val (.long q3), .second, .val (.long q4), .second, .val (.int (own_t0_3 p0 p1 p2 q3 q4)), .val (.int (own_t0_16 p0 p1 p2 q3 q4)), .val (.ref bm113), .val (.ref bm114), .val (.ref b115), .val (.ref b183), .unset, .unset, .unset] [])) (fun t k => XS.astore X184.her hx rfl (hb hby at_104) rfl rfl (l' := #[.val (.int p0), .val (.int p1), .val (.int p2), .val (.long q3), .second, .val (.long q4), .second, .val (.int (own_t0_3 p0 p1 p2 q3 q4)), .val (.int (own_t0_16 p0 p1 p2 q3 q4)), .val (.ref bm113), .val (.ref bm114), .val (.ref b115), .val (.ref b183), .unset, .unset, .unset]) rfl k) ?_
    refine own_st (f' := (mkF m 108 #[.val (.int p0), .val (.int p1), .val (.int p2), .val (.long q3), .second, .val (.long q4), .second, .val (.int (own_t0_3 p0 p1 p2 q3 q4)), .val (.int (own_t0_16 p0 p1 p2 q3 q4)), .val (.ref bm113), .val (.ref bm114), .val (.ref b115), .val (.ref b183), .unset, .unset, .unset] [(.int (own_t0_16 p0 p1 p2 q3 q4))])) (fun t k => XS.iload X184.her hx rfl (hb hby at_106) rfl k) ?_
    by_cases hc185 : (0 : Int32) < (own_t0_16 p0 p1 p2 q3 q4)
    · refine own_st (f' := (mkF m 111 #[.val (.int p0), .val (.int p1), .val (.int p2), .val (.long q3), .second, .val (.long q4), .second, .val (.int (own_t0_3 p0 p1 p2 q3 q4)), .val (.int (own_t0_16 p0 p1 p2 q3 q4)), .val (.ref bm113), .val (.ref bm114), .val (.ref b115), .val (.ref b183), .unset, .unset, .unset] [])) (fun t k => XS.ifNo X184.her hx rfl (hb hby at_108) rfl ((if0 _ _).trans (tlt hc185).2.2.2) k) ?_
      refine own_st (f' := (mkF m 113 #[.val (.int p0), .val (.int p1), .val (.int p2), .val (.long q3), .second, .val (.long q4), .second, .val (.int (own_t0_3 p0 p1 p2 q3 q4)), .val (.int (own_t0_16 p0 p1 p2 q3 q4)), .val (.ref bm113), .val (.ref bm114), .val (.ref b115), .val (.ref b183), .unset, .unset, .unset] [(.ref b183)])) (fun t k => XS.aload X184.her hx rfl (hb hby at_111) rfl rfl k) ?_
      refine own_st (f' := (mkF m 115 #[.val (.int p0), .val (.int p1), .val (.int p2), .val (.long q3), .second, .val (.long q4), .second, .val (.int (own_t0_3 p0 p1 p2 q3 q4)), .val (.int (own_t0_16 p0 p1 p2 q3 q4)), .val (.ref bm113), .val (.ref bm114), .val (.ref b115), .val (.ref b183), .unset, .unset, .unset] [(.ref bm114), (.ref b183)])) (fun t k => XS.aload X184.her hx rfl (hb hby at_113) rfl rfl k) ?_
      refine own_callV (y := (⟨"java/util/ArrayList", "add", "(Ljava/lang/Object;)Z"⟩ : MethodName)) (W := 0) [(.ref bm114)] X184 hx hZ hown (own_w47 hw) (own_w48 hw) (own_w50 hw) (own_w49 hw) (own_w25 hw) (own_w51 hw) (by decide) Ea184 (own_add0 l Z a0 hw h184 n0 Zn184 b183 bm114 vd Ea184 Fs184 Fe184 Fm184 A184_bm114 B184_vd Sk184 ga_b183 ne_vd_b183) (allS (Or.inr q183) all0) (by decide) (by decide) (by decide) (by decide) (by rw [hml]; rfl) own_pd5 rfl rfl (Nat.le_of_eq rfl) (hb hby at_115) ?_
      rintro v186 T186 h186 X186 K186 ⟨rfl, bg186, qg186, Ea186, Fs186, Fe186, Fm186, Bg186⟩
      have B186_vd := B184_vd.keep K186 (ninS ne_vd_b183 nin0)
      have F186_bm113_cents := F184_bm113_cents.keep K186 (ninS ne_bm113_b183 nin0)
      have F186_bm114_cents := F184_bm114_cents.keep K186 (ninS ne_bm114_b183 nin0)
      have F186_b115_modCount := F184_b115_modCount.keep K186 (ninS ne_b115_b183 nin0)
      have F186_b115_elementData := F184_b115_elementData.keep K186 (ninS ne_b115_b183 nin0)
      have F186_b115_size := F184_b115_size.keep K186 (ninS ne_b115_b183 nin0)
      have A186_bm113 := A184_bm113.keep K186
      have A186_bm114 := A184_bm114.keep K186
      have A186_b115 := A184_b115.keep K186
      have A186_b183 := Ea184.keep K186
      have Zn186 : n0 ≤ h186.size := Nat.le_trans Zn184 K186.1
      have ga_bg186 : n0 ≤ bg186 := Nat.le_trans Zn184 qg186
      have qa_bg186 : h0.size ≤ bg186 := Nat.le_trans X184.2.2.1 qg186
      have Sk186 := own_Sta_keep Sk184 K186 (allS (own_exa_ns Ea184) all0)
      have ne_bm113_bg186 : bm113 ≠ bg186 := Nat.ne_of_lt (Nat.lt_of_lt_of_le A184_bm113.lt qg186)
      have ne_bm114_bg186 : bm114 ≠ bg186 := Nat.ne_of_lt (Nat.lt_of_lt_of_le A184_bm114.lt qg186)
      have ne_b115_bg186 : b115 ≠ bg186 := Nat.ne_of_lt (Nat.lt_of_lt_of_le A184_b115.lt qg186)
      have ne_b183_bg186 : b183 ≠ bg186 := Nat.ne_of_lt (Nat.lt_of_lt_of_le Ea184.lt qg186)
      have ne_vd_bg186 : vd ≠ bg186 := Nat.ne_of_lt (Nat.lt_of_lt_of_le B184_vd.lt qg186)
      show own_G p e below _ T186 (mkF m 118 #[.val (.int p0), .val (.int p1), .val (.int p2), .val (.long q3), .second, .val (.long q4), .second, .val (.int (own_t0_3 p0 p1 p2 q3 q4)), .val (.int (own_t0_16 p0 p1 p2 q3 q4)), .val (.ref bm113), .val (.ref bm114), .val (.ref b115), .val (.ref b183), .unset, .unset, .unset] [(.int (1 : Int32))])
      refine own_st (f' := (mkF m 119 #[.val (.int p0), .val (.int p1), .val (.int p2), .val (.long q3), .second, .val (.long q4), .second, .val (.int (own_t0_3 p0 p1 p2 q3 q4)), .val (.int (own_t0_16 p0 p1 p2 q3 q4)), .val (.ref bm113), .val (.ref bm114), .val (.ref b115), .val (.ref b183), .unset, .unset, .unset] [])) (fun t k => XS.pop X186.her hx rfl (hb hby at_118) rfl rfl k) ?_
      refine own_st (f' := (mkF m 121 #[.val (.int p0), .val (.int p1), .val (.int p2), .val (.long q3), .second, .val (.long q4), .second, .val (.int (own_t0_3 p0 p1 p2 q3 q4)), .val (.int (own_t0_16 p0 p1 p2 q3 q4)), .val (.ref bm113), .val (.ref bm114), .val (.ref b115), .val (.ref b183), .unset, .unset, .unset] [(.int (own_t0_16 p0 p1 p2 q3 q4))])) (fun t k => XS.iload X186.her hx rfl (hb hby at_119) rfl k) ?_
      refine own_st (f' := (mkF m 122 #[.val (.int p0), .val (.int p1), .val (.int p2), .val (.long q3), .second, .val (.long q4), .second, .val (.int (own_t0_3 p0 p1 p2 q3 q4)), .val (.int (own_t0_16 p0 p1 p2 q3 q4)), .val (.ref bm113), .val (.ref bm114), .val (.ref b115), .val (.ref b183), .unset, .unset, .unset] [(.int (1 : Int32)), (.int (own_t0_16 p0 p1 p2 q3 q4))])) (fun t k => XS.iconst X186.her hx rfl (hb hby at_121) k) ?_
      by_cases hc187 : (1 : Int32) < (own_t0_16 p0 p1 p2 q3 q4)
      · refine own_st (f' := (mkF m 125 #[.val (.int p0), .val (.int p1), .val (.int p2), .val (.long q3), .second, .val (.long q4), .second, .val (.int (own_t0_3 p0 p1 p2 q3 q4)), .val (.int (own_t0_16 p0 p1 p2 q3 q4)), .val (.ref bm113), .val (.ref bm114), .val (.ref b115), .val (.ref b183), .unset, .unset, .unset] [])) (fun t k => XS.icmpNo X186.her hx rfl (hb hby at_122) rfl (tlt hc187).2.2.2 k) ?_
        refine own_st (f' := (mkF m 127 #[.val (.int p0), .val (.int p1), .val (.int p2), .val (.long q3), .second, .val (.long q4), .second, .val (.int (own_t0_3 p0 p1 p2 q3 q4)), .val (.int (own_t0_16 p0 p1 p2 q3 q4)), .val (.ref bm113), .val (.ref bm114), .val (.ref b115), .val (.ref b183), .unset, .unset, .unset] [(.ref b183)])) (fun t k => XS.aload X186.her hx rfl (hb hby at_125) rfl rfl k) ?_
        refine own_st (f' := (mkF m 129 #[.val (.int p0), .val (.int p1), .val (.int p2), .val (.long q3), .second, .val (.long q4), .second, .val (.int (own_t0_3 p0 p1 p2 q3 q4)), .val (.int (own_t0_16 p0 p1 p2 q3 q4)), .val (.ref bm113), .val (.ref bm114), .val (.ref b115), .val (.ref b183), .unset, .unset, .unset] [(.ref bm113), (.ref b183)])) (fun t k => XS.aload X186.her hx rfl (hb hby at_127) rfl rfl k) ?_
        refine own_callV (y := (⟨"java/util/ArrayList", "add", "(Ljava/lang/Object;)Z"⟩ : MethodName)) (W := 0) [(.ref bm113)] X186 hx hZ hown (own_w47 hw) (own_w48 hw) (own_w50 hw) (own_w49 hw) (own_w25 hw) (own_w51 hw) (by decide) Ea186 (own_add1 l Z a0 hw h186 n0 Zn186 b183 bm113 bg186 bm114 Ea186 Fs186 Fe186 Fm186 A186_bm113 Bg186 ga_b183 ga_bg186 ne_b183_bg186) (allS (Or.inr q183) (allS (Or.inr qa_bg186) all0)) (by decide) (by decide) (by decide) (by decide) (by rw [hml]; rfl) own_pd5 rfl rfl (Nat.le_of_eq rfl) (hb hby at_129) ?_
        rintro v188 T188 h188 X188 K188 ⟨rfl, Ea188, Fs188, Fe188, Fm188, Bg188⟩
        have B188_vd := B186_vd.keep K188 (ninS ne_vd_b183 (ninS ne_vd_bg186 nin0))
        have F188_bm113_cents := F186_bm113_cents.keep K188 (ninS ne_bm113_b183 (ninS ne_bm113_bg186 nin0))
        have F188_bm114_cents := F186_bm114_cents.keep K188 (ninS ne_bm114_b183 (ninS ne_bm114_bg186 nin0))
        have F188_b115_modCount := F186_b115_modCount.keep K188 (ninS ne_b115_b183 (ninS ne_b115_bg186 nin0))
        have F188_b115_elementData := F186_b115_elementData.keep K188 (ninS ne_b115_b183 (ninS ne_b115_bg186 nin0))
        have F188_b115_size := F186_b115_size.keep K188 (ninS ne_b115_b183 (ninS ne_b115_bg186 nin0))
        have A188_bm113 := A186_bm113.keep K188
        have A188_bm114 := A186_bm114.keep K188
        have A188_b115 := A186_b115.keep K188
        have A188_b183 := Ea186.keep K188
        have Zn188 : n0 ≤ h188.size := Nat.le_trans Zn186 K188.1
        have Sk188 := own_Sta_keep Sk186 K188 (allS (own_exa_ns Ea186) (allS (own_ra_ns Bg186) all0))
        show own_G p e below _ T188 (mkF m 132 #[.val (.int p0), .val (.int p1), .val (.int p2), .val (.long q3), .second, .val (.long q4), .second, .val (.int (own_t0_3 p0 p1 p2 q3 q4)), .val (.int (own_t0_16 p0 p1 p2 q3 q4)), .val (.ref bm113), .val (.ref bm114), .val (.ref b115), .val (.ref b183), .unset, .unset, .unset] [(.int (1 : Int32))])
        refine own_st (f' := (mkF m 133 #[.val (.int p0), .val (.int p1), .val (.int p2), .val (.long q3), .second, .val (.long q4), .second, .val (.int (own_t0_3 p0 p1 p2 q3 q4)), .val (.int (own_t0_16 p0 p1 p2 q3 q4)), .val (.ref bm113), .val (.ref bm114), .val (.ref b115), .val (.ref b183), .unset, .unset, .unset] [])) (fun t k => XS.pop X188.her hx rfl (hb hby at_132) rfl rfl k) ?_
        refine own_st (f' := (mkF m 135 #[.val (.int p0), .val (.int p1), .val (.int p2), .val (.long q3), .second, .val (.long q4), .second, .val (.int (own_t0_3 p0 p1 p2 q3 q4)), .val (.int (own_t0_16 p0 p1 p2 q3 q4)), .val (.ref bm113), .val (.ref bm114), .val (.ref b115), .val (.ref b183), .unset, .unset, .unset] [(.int (own_t0_16 p0 p1 p2 q3 q4))])) (fun t k => XS.iload X188.her hx rfl (hb hby at_133) rfl k) ?_
        refine own_st (f' := (mkF m 136 #[.val (.int p0), .val (.int p1), .val (.int p2), .val (.long q3), .second, .val (.long q4), .second, .val (.int (own_t0_3 p0 p1 p2 q3 q4)), .val (.int (own_t0_16 p0 p1 p2 q3 q4)), .val (.ref bm113), .val (.ref bm114), .val (.ref b115), .val (.ref b183), .unset, .unset, .unset] [(.int (2 : Int32)), (.int (own_t0_16 p0 p1 p2 q3 q4))])) (fun t k => XS.iconst X188.her hx rfl (hb hby at_135) k) ?_
        by_cases hc189 : (2 : Int32) < (own_t0_16 p0 p1 p2 q3 q4)
        · refine own_st (f' := (mkF m 139 #[.val (.int p0), .val (.int p1), .val (.int p2), .val (.long q3), .second, .val (.long q4), .second, .val (.int (own_t0_3 p0 p1 p2 q3 q4)), .val (.int (own_t0_16 p0 p1 p2 q3 q4)), .val (.ref bm113), .val (.ref bm114), .val (.ref b115), .val (.ref b183), .unset, .unset, .unset] [])) (fun t k => XS.icmpNo X188.her hx rfl (hb hby at_136) rfl (tlt hc189).2.2.2 k) ?_
          refine own_st (f' := (mkF m 141 #[.val (.int p0), .val (.int p1), .val (.int p2), .val (.long q3), .second, .val (.long q4), .second, .val (.int (own_t0_3 p0 p1 p2 q3 q4)), .val (.int (own_t0_16 p0 p1 p2 q3 q4)), .val (.ref bm113), .val (.ref bm114), .val (.ref b115), .val (.ref b183), .unset, .unset, .unset] [(.ref b183)])) (fun t k => XS.aload X188.her hx rfl (hb hby at_139) rfl rfl k) ?_
          refine own_st (f' := (mkF m 143 #[.val (.int p0), .val (.int p1), .val (.int p2), .val (.long q3), .second, .val (.long q4), .second, .val (.int (own_t0_3 p0 p1 p2 q3 q4)), .val (.int (own_t0_16 p0 p1 p2 q3 q4)), .val (.ref bm113), .val (.ref bm114), .val (.ref b115), .val (.ref b183), .unset, .unset, .unset] [(.ref bm114), (.ref b183)])) (fun t k => XS.aload X188.her hx rfl (hb hby at_141) rfl rfl k) ?_
          refine own_callV (y := (⟨"java/util/ArrayList", "add", "(Ljava/lang/Object;)Z"⟩ : MethodName)) (W := 0) [(.ref bm114)] X188 hx hZ hown (own_w47 hw) (own_w48 hw) (own_w50 hw) (own_w49 hw) (own_w25 hw) (own_w51 hw) (by decide) Ea188 (own_add2 l Z a0 hw h188 n0 Zn188 b183 bm114 bg186 bm114 bm113 Ea188 Fs188 Fe188 Fm188 A188_bm114 Bg188 ga_b183 ga_bg186 ne_b183_bg186) (allS (Or.inr q183) (allS (Or.inr qa_bg186) all0)) (by decide) (by decide) (by decide) (by decide) (by rw [hml]; rfl) own_pd5 rfl rfl (Nat.le_of_eq rfl) (hb hby at_143) ?_
          rintro v190 T190 h190 X190 K190 ⟨rfl, Ea190, Fs190, Fe190, Fm190, Bg190⟩
          have B190_vd := B188_vd.keep K190 (ninS ne_vd_b183 (ninS ne_vd_bg186 nin0))
          have F190_bm113_cents := F188_bm113_cents.keep K190 (ninS ne_bm113_b183 (ninS ne_bm113_bg186 nin0))
          have F190_bm114_cents := F188_bm114_cents.keep K190 (ninS ne_bm114_b183 (ninS ne_bm114_bg186 nin0))
          have F190_b115_modCount := F188_b115_modCount.keep K190 (ninS ne_b115_b183 (ninS ne_b115_bg186 nin0))
          have F190_b115_elementData := F188_b115_elementData.keep K190 (ninS ne_b115_b183 (ninS ne_b115_bg186 nin0))
          have F190_b115_size := F188_b115_size.keep K190 (ninS ne_b115_b183 (ninS ne_b115_bg186 nin0))
          have A190_bm113 := A188_bm113.keep K190
          have A190_bm114 := A188_bm114.keep K190
          have A190_b115 := A188_b115.keep K190
          have A190_b183 := Ea188.keep K190
          have Zn190 : n0 ≤ h190.size := Nat.le_trans Zn188 K190.1
          have Sk190 := own_Sta_keep Sk188 K190 (allS (own_exa_ns Ea188) (allS (own_ra_ns Bg188) all0))
          show own_G p e below _ T190 (mkF m 146 #[.val (.int p0), .val (.int p1), .val (.int p2), .val (.long q3), .second, .val (.long q4), .second, .val (.int (own_t0_3 p0 p1 p2 q3 q4)), .val (.int (own_t0_16 p0 p1 p2 q3 q4)), .val (.ref bm113), .val (.ref bm114), .val (.ref b115), .val (.ref b183), .unset, .unset, .unset] [(.int (1 : Int32))])
          refine own_st (f' := (mkF m 147 #[.val (.int p0), .val (.int p1), .val (.int p2), .val (.long q3), .second, .val (.long q4), .second, .val (.int (own_t0_3 p0 p1 p2 q3 q4)), .val (.int (own_t0_16 p0 p1 p2 q3 q4)), .val (.ref bm113), .val (.ref bm114), .val (.ref b115), .val (.ref b183), .unset, .unset, .unset] [])) (fun t k => XS.pop X190.her hx rfl (hb hby at_146) rfl rfl k) ?_
          refine own_newO X190 hx hZ hown (own_w75 hw) (own_w76 hw) (own_w77 hw) (hb hby at_147) (by decide) (by decide) ?_
          intro T191 h191 b191 g191 q191 X191 E191 A191 D191
          have lt_vd_b191 : vd < b191 := Nat.lt_of_lt_of_le B190_vd.lt (Nat.le_of_eq g191.symm)
          have ne_vd_b191 : vd ≠ b191 := Nat.ne_of_lt (Nat.lt_of_lt_of_le B190_vd.lt (Nat.le_of_eq g191.symm))
          have B191_vd := B190_vd.ext E191
          have lt_bg186_b191 : bg186 < b191 := Nat.lt_of_lt_of_le Bg190.lt (Nat.le_of_eq g191.symm)
          have ne_bg186_b191 : bg186 ≠ b191 := Nat.ne_of_lt (Nat.lt_of_lt_of_le Bg190.lt (Nat.le_of_eq g191.symm))
          have B191_bg186 := Bg190.ext E191
          have lt_bm113_b191 : bm113 < b191 := Nat.lt_of_lt_of_le A190_bm113.lt (Nat.le_of_eq g191.symm)
          have ne_bm113_b191 : bm113 ≠ b191 := Nat.ne_of_lt (Nat.lt_of_lt_of_le A190_bm113.lt (Nat.le_of_eq g191.symm))
          have A191_bm113 := A190_bm113.ext E191
          have lt_bm114_b191 : bm114 < b191 := Nat.lt_of_lt_of_le A190_bm114.lt (Nat.le_of_eq g191.symm)
          have ne_bm114_b191 : bm114 ≠ b191 := Nat.ne_of_lt (Nat.lt_of_lt_of_le A190_bm114.lt (Nat.le_of_eq g191.symm))
          have A191_bm114 := A190_bm114.ext E191
          have lt_b115_b191 : b115 < b191 := Nat.lt_of_lt_of_le A190_b115.lt (Nat.le_of_eq g191.symm)
          have ne_b115_b191 : b115 ≠ b191 := Nat.ne_of_lt (Nat.lt_of_lt_of_le A190_b115.lt (Nat.le_of_eq g191.symm))
          have A191_b115 := A190_b115.ext E191
          have lt_b183_b191 : b183 < b191 := Nat.lt_of_lt_of_le Ea190.lt (Nat.le_of_eq g191.symm)
          have ne_b183_b191 : b183 ≠ b191 := Nat.ne_of_lt (Nat.lt_of_lt_of_le Ea190.lt (Nat.le_of_eq g191.symm))
          have A191_b183 := Ea190.ext E191
          have F191_bm113_cents := F190_bm113_cents.ext E191
          have F191_bm114_cents := F190_bm114_cents.ext E191
          have F191_b115_modCount := F190_b115_modCount.ext E191
          have F191_b115_elementData := F190_b115_elementData.ext E191
          have F191_b115_size := F190_b115_size.ext E191
          have F191_b183_modCount := Fm190.ext E191
          have F191_b183_elementData := Fe190.ext E191
          have F191_b183_size := Fs190.ext E191
          have S191_DEFAULTCAPACITY_EMPTY_ELEMENTDATA := Sk190.ext E191
          have ga_b191 : n0 ≤ b191 := Nat.le_trans Z0 q191
          have Zn191 : n0 ≤ h191.size := Nat.le_trans Zn190 E191.1
          have F191_held : Fld Z h191 b191 "com/example/bidwright/bidwright/allocation/Supply" "held" "I" (.int (0 : Int32)) := D191 (Or.inr (own_w83 hw)) (ty := .int) (by decide)
          have F191_costs : Fld Z h191 b191 "com/example/bidwright/bidwright/allocation/Supply" "costs" "[J" .null := D191 (Or.inr (own_w129 hw)) (ty := (.array .long)) (by decide)
          have F191_revenues : Fld Z h191 b191 "com/example/bidwright/bidwright/allocation/Supply" "revenues" "[J" .null := D191 (Or.inr (own_w131 hw)) (ty := (.array .long)) (by decide)
          refine own_st (f' := (mkF m 151 #[.val (.int p0), .val (.int p1), .val (.int p2), .val (.long q3), .second, .val (.long q4), .second, .val (.int (own_t0_3 p0 p1 p2 q3 q4)), .val (.int (own_t0_16 p0 p1 p2 q3 q4)), .val (.ref bm113), .val (.ref bm114), .val (.ref b115), .val (.ref b183), .unset, .unset, .unset] [(.ref b191), (.ref b191)])) (fun t k => XS.dup X191.her hx rfl (hb hby at_150) rfl rfl k) ?_
          refine own_st (f' := (mkF m 152 #[.val (.int p0), .val (.int p1), .val (.int p2), .val (.long q3), .second, .val (.long q4), .second, .val (.int (own_t0_3 p0 p1 p2 q3 q4)), .val (.int (own_t0_16 p0 p1 p2 q3 q4)), .val (.ref bm113), .val (.ref bm114), .val (.ref b115), .val (.ref b183), .unset, .unset, .unset] [(.int p0), (.ref b191), (.ref b191)])) (fun t k => XS.iloadN X191.her hx rfl (hb hby at_151) rfl k) ?_
          refine own_st (f' := (mkF m 154 #[.val (.int p0), .val (.int p1), .val (.int p2), .val (.long q3), .second, .val (.long q4), .second, .val (.int (own_t0_3 p0 p1 p2 q3 q4)), .val (.int (own_t0_16 p0 p1 p2 q3 q4)), .val (.ref bm113), .val (.ref bm114), .val (.ref b115), .val (.ref b183), .unset, .unset, .unset] [(.ref b115), (.int p0), (.ref b191), (.ref b191)])) (fun t k => XS.aload X191.her hx rfl (hb hby at_152) rfl rfl k) ?_
          refine own_st (f' := (mkF m 156 #[.val (.int p0), .val (.int p1), .val (.int p2), .val (.long q3), .second, .val (.long q4), .second, .val (.int (own_t0_3 p0 p1 p2 q3 q4)), .val (.int (own_t0_16 p0 p1 p2 q3 q4)), .val (.ref bm113), .val (.ref bm114), .val (.ref b115), .val (.ref b183), .unset, .unset, .unset] [(.ref b183), (.ref b115), (.int p0), (.ref b191), (.ref b191)])) (fun t k => XS.aload X191.her hx rfl (hb hby at_154) rfl rfl k) ?_
          have LS192_2 : own_LS Z h191 b191 b115 [] := ⟨lt_b115_b191, A191_b115, F191_b115_size, (Or.inl rfl), own_q0⟩
          have LS192_3 : own_LS Z h191 b191 b183 [(bm114, (own_t0_42 p0 p1 p2 q3 q4)), (bm113, (own_t0_27 p0 p1 p2 q3 q4)), (bm114, (own_t0_42 p0 p1 p2 q3 q4))] := ⟨lt_b183_b191, A191_b183, F191_b183_size, (Or.inr ⟨bg186, lt_bg186_b191, F191_b183_elementData, B191_bg186⟩), (own_qS ⟨lt_bm114_b191, A191_bm114, F191_bm114_cents, own_am42 p0 p1 p2 q3 q4⟩ (own_qS ⟨lt_bm113_b191, A191_bm113, F191_bm113_cents, own_am27 p0 p1 p2 q3 q4⟩ (own_qS ⟨lt_bm114_b191, A191_bm114, F191_bm114_cents, own_am42 p0 p1 p2 q3 q4⟩ own_q0)))⟩
          refine own_callC (y := (⟨"com/example/bidwright/bidwright/allocation/Supply", "<init>", "(ILjava/util/List;Ljava/util/List;)V"⟩ : MethodName)) (W := 1) [(.int p0), (.ref b115), (.ref b183)] X191 hx hZ hown rfl (own_w78 hw) (own_w79 hw) (own_w77 hw) (own_w80 hw) (by decide) (own_c13 l Z a0 hw h191 n0 Zn191 b191 p0 b115 b183 b191 _ _ A191 F191_held F191_costs F191_revenues ga_b191 (Nat.le_refl _) LS192_2 LS192_3 (by show 0 ≤ 3; decide) (by show 3 ≤ 3; decide)) (allS (Or.inr q191) all0) (by decide) (by decide) (by decide) (by decide) (by rw [hml]; rfl) own_pd14 rfl rfl (Nat.le_of_eq rfl) (hb hby at_156) ?_
          rintro v192 T192 h192 X192 K192 ⟨rfl, Ax192, Fh192, bt192, La192, Fc192, Bt192, hl192⟩
          have B192_vd := B191_vd.keep K192 (ninS ne_vd_b191 nin0)
          have B192_bg186 := B191_bg186.keep K192 (ninS ne_bg186_b191 nin0)
          have F192_bm113_cents := F191_bm113_cents.keep K192 (ninS ne_bm113_b191 nin0)
          have F192_bm114_cents := F191_bm114_cents.keep K192 (ninS ne_bm114_b191 nin0)
          have F192_b115_modCount := F191_b115_modCount.keep K192 (ninS ne_b115_b191 nin0)
          have F192_b115_elementData := F191_b115_elementData.keep K192 (ninS ne_b115_b191 nin0)
          have F192_b115_size := F191_b115_size.keep K192 (ninS ne_b115_b191 nin0)
          have F192_b183_modCount := F191_b183_modCount.keep K192 (ninS ne_b183_b191 nin0)
          have F192_b183_elementData := F191_b183_elementData.keep K192 (ninS ne_b183_b191 nin0)
          have F192_b183_size := F191_b183_size.keep K192 (ninS ne_b183_b191 nin0)
          have A192_bm113 := A191_bm113.keep K192
          have A192_bm114 := A191_bm114.keep K192
          have A192_b115 := A191_b115.keep K192
          have A192_b183 := A191_b183.keep K192
          have A192_b191 := A191.keep K192
          have Zn192 : n0 ≤ h192.size := Nat.le_trans Zn191 K192.1
          show own_G p e below _ T192 (mkF m 159 #[.val (.int p0), .val (.int p1), .val (.int p2), .val (.long q3), .second, .val (.long q4), .second, .val (.int (own_t0_3 p0 p1 p2 q3 q4)), .val (.int (own_t0_16 p0 p1 p2 q3 q4)), .val (.ref bm113), .val (.ref bm114), .val (.ref b115), .val (.ref b183), .unset, .unset, .unset] [(.ref b191)])
          refine own_st (f' := (mkF m 161 #[.val (.int p0), .val (.int p1), .val (.int p2), .val (.long q3), .second, .val (.long q4), .second, .val (.int (own_t0_3 p0 p1 p2 q3 q4)), .val (.int (own_t0_16 p0 p1 p2 q3 q4)), .val (.ref bm113), .val (.ref bm114), .val (.ref b115), .val (.ref b183), .val (.ref b191), .unset, .unset] [])) (fun t k => XS.astore X192.her hx rfl (hb hby at_159) rfl rfl (l' := #[.val (.int p0), .val (.int p1), .val (.int p2), .val (.long q3), .second, .val (.long q4), .second, .val (.int (own_t0_3 p0 p1 p2 q3 q4)), .val (.int (own_t0_16 p0 p1 p2 q3 q4)), .val (.ref bm113), .val (.ref bm114), .val (.ref b115), .val (.ref b183), .val (.ref b191), .unset, .unset]) rfl k) ?_
          refine own_st (f' := (mkF m 162 #[.val (.int p0), .val (.int p1), .val (.int p2), .val (.long q3), .second, .val (.long q4), .second, .val (.int (own_t0_3 p0 p1 p2 q3 q4)), .val (.int (own_t0_16 p0 p1 p2 q3 q4)), .val (.ref bm113), .val (.ref bm114), .val (.ref b115), .val (.ref b183), .val (.ref b191), .unset, .unset] [(.int p0)])) (fun t k => XS.iloadN X192.her hx rfl (hb hby at_161) rfl k) ?_
          refine own_st (f' := (mkF m 163 #[.val (.int p0), .val (.int p1), .val (.int p2), .val (.long q3), .second, .val (.long q4), .second, .val (.int (own_t0_3 p0 p1 p2 q3 q4)), .val (.int (own_t0_16 p0 p1 p2 q3 q4)), .val (.ref bm113), .val (.ref bm114), .val (.ref b115), .val (.ref b183), .val (.ref b191), .unset, .unset] [(.long (p0.toInt64))])) (fun t k => XS.i2l X192.her hx rfl (hb hby at_162) rfl k) ?_
          refine own_st (f' := (mkF m 165 #[.val (.int p0), .val (.int p1), .val (.int p2), .val (.long q3), .second, .val (.long q4), .second, .val (.int (own_t0_3 p0 p1 p2 q3 q4)), .val (.int (own_t0_16 p0 p1 p2 q3 q4)), .val (.ref bm113), .val (.ref bm114), .val (.ref b115), .val (.ref b183), .val (.ref b191), .unset, .unset] [(.int (own_t0_3 p0 p1 p2 q3 q4)), (.long (p0.toInt64))])) (fun t k => XS.iload X192.her hx rfl (hb hby at_163) rfl k) ?_
          refine own_st (f' := (mkF m 166 #[.val (.int p0), .val (.int p1), .val (.int p2), .val (.long q3), .second, .val (.long q4), .second, .val (.int (own_t0_3 p0 p1 p2 q3 q4)), .val (.int (own_t0_16 p0 p1 p2 q3 q4)), .val (.ref bm113), .val (.ref bm114), .val (.ref b115), .val (.ref b183), .val (.ref b191), .unset, .unset] [(.long ((own_t0_3 p0 p1 p2 q3 q4).toInt64)), (.long (p0.toInt64))])) (fun t k => XS.i2l X192.her hx rfl (hb hby at_165) rfl k) ?_
          refine own_st (f' := (mkF m 167 #[.val (.int p0), .val (.int p1), .val (.int p2), .val (.long q3), .second, .val (.long q4), .second, .val (.int (own_t0_3 p0 p1 p2 q3 q4)), .val (.int (own_t0_16 p0 p1 p2 q3 q4)), .val (.ref bm113), .val (.ref bm114), .val (.ref b115), .val (.ref b183), .val (.ref b191), .unset, .unset] [(.long ((p0.toInt64) + ((own_t0_3 p0 p1 p2 q3 q4).toInt64)))])) (fun t k => XS.ladd X192.her hx rfl (hb hby at_166) rfl k) ?_
          refine own_st (f' := (mkF m 169 #[.val (.int p0), .val (.int p1), .val (.int p2), .val (.long q3), .second, .val (.long q4), .second, .val (.int (own_t0_3 p0 p1 p2 q3 q4)), .val (.int (own_t0_16 p0 p1 p2 q3 q4)), .val (.ref bm113), .val (.ref bm114), .val (.ref b115), .val (.ref b183), .val (.ref b191), .val (.long (own_t0_167 p0 p1 p2 q3 q4)), .second] [])) (fun t k => XS.lstore X192.her hx rfl (hb hby at_167) rfl (l' := #[.val (.int p0), .val (.int p1), .val (.int p2), .val (.long q3), .second, .val (.long q4), .second, .val (.int (own_t0_3 p0 p1 p2 q3 q4)), .val (.int (own_t0_16 p0 p1 p2 q3 q4)), .val (.ref bm113), .val (.ref bm114), .val (.ref b115), .val (.ref b183), .val (.ref b191), .val (.long (own_t0_167 p0 p1 p2 q3 q4)), .second]) rfl k) ?_
          refine own_st (f' := (mkF m 171 #[.val (.int p0), .val (.int p1), .val (.int p2), .val (.long q3), .second, .val (.long q4), .second, .val (.int (own_t0_3 p0 p1 p2 q3 q4)), .val (.int (own_t0_16 p0 p1 p2 q3 q4)), .val (.ref bm113), .val (.ref bm114), .val (.ref b115), .val (.ref b183), .val (.ref b191), .val (.long (own_t0_167 p0 p1 p2 q3 q4)), .second] [(.ref b191)])) (fun t k => XS.aload X192.her hx rfl (hb hby at_169) rfl rfl k) ?_
          refine own_callVP (y := (⟨"com/example/bidwright/bidwright/allocation/Supply", "most", "()J"⟩ : MethodName)) (W := 0) [] X192 hx hZ hown (own_w132 hw) (own_w133 hw) (own_w135 hw) (own_w134 hw) (own_w77 hw) (own_w136 hw) (by decide) Ax192 (own_c22 l Z a0 hw h192 n0 Zn192 b191 p0 (1 : Int32) bt192 _ Fh192 Fc192 Bt192 (by rw [hl192]; rfl)) (by decide) (by decide) (by decide) (by decide) (by rw [hml]; rfl) own_pd11 rfl rfl (Nat.le_of_eq rfl) (hb hby at_171) ?_
          intro T193 X193
          show own_G p e below _ T193 (mkF m 174 #[.val (.int p0), .val (.int p1), .val (.int p2), .val (.long q3), .second, .val (.long q4), .second, .val (.int (own_t0_3 p0 p1 p2 q3 q4)), .val (.int (own_t0_16 p0 p1 p2 q3 q4)), .val (.ref bm113), .val (.ref bm114), .val (.ref b115), .val (.ref b183), .val (.ref b191), .val (.long (own_t0_167 p0 p1 p2 q3 q4)), .second] [(.long ((p0.toInt64 + (1 : Int32).toInt64) - 1))])
          refine own_st (f' := (mkF m 176 #[.val (.int p0), .val (.int p1), .val (.int p2), .val (.long q3), .second, .val (.long q4), .second, .val (.int (own_t0_3 p0 p1 p2 q3 q4)), .val (.int (own_t0_16 p0 p1 p2 q3 q4)), .val (.ref bm113), .val (.ref bm114), .val (.ref b115), .val (.ref b183), .val (.ref b191), .val (.long (own_t0_167 p0 p1 p2 q3 q4)), .second] [(.long (own_t0_167 p0 p1 p2 q3 q4)), (.long ((p0.toInt64 + (1 : Int32).toInt64) - 1))])) (fun t k => XS.lload X193.her hx rfl (hb hby at_174) rfl k) ?_
          refine own_st (f' := (mkF m 177 #[.val (.int p0), .val (.int p1), .val (.int p2), .val (.long q3), .second, .val (.long q4), .second, .val (.int (own_t0_3 p0 p1 p2 q3 q4)), .val (.int (own_t0_16 p0 p1 p2 q3 q4)), .val (.ref bm113), .val (.ref bm114), .val (.ref b115), .val (.ref b183), .val (.ref b191), .val (.long (own_t0_167 p0 p1 p2 q3 q4)), .second] [(.int (lcmpW ((p0.toInt64 + (1 : Int32).toInt64) - 1) (own_t0_167 p0 p1 p2 q3 q4)))])) (fun t k => XS.lcmp X193.her hx rfl (hb hby at_176) rfl k) ?_
          refine own_st (f' := (mkF m 180 #[.val (.int p0), .val (.int p1), .val (.int p2), .val (.long q3), .second, .val (.long q4), .second, .val (.int (own_t0_3 p0 p1 p2 q3 q4)), .val (.int (own_t0_16 p0 p1 p2 q3 q4)), .val (.ref bm113), .val (.ref bm114), .val (.ref b115), .val (.ref b183), .val (.ref b191), .val (.long (own_t0_167 p0 p1 p2 q3 q4)), .second] [])) (fun t k => XS.ifNo X193.her hx rfl (hb hby at_177) rfl ((if0 _ _).trans (teq ((lw_eq _ _).mpr (own_fin _ _ _ (by rw [own_nb0 p0 p1 p2 q3 q4 hc117]; decide)) : (lcmpW ((p0.toInt64 + (1 : Int32).toInt64) - 1) (own_t0_167 p0 p1 p2 q3 q4)) = (0 : Int32))).2) k) ?_
          refine own_st (f' := (mkF m 181 #[.val (.int p0), .val (.int p1), .val (.int p2), .val (.long q3), .second, .val (.long q4), .second, .val (.int (own_t0_3 p0 p1 p2 q3 q4)), .val (.int (own_t0_16 p0 p1 p2 q3 q4)), .val (.ref bm113), .val (.ref bm114), .val (.ref b115), .val (.ref b183), .val (.ref b191), .val (.long (own_t0_167 p0 p1 p2 q3 q4)), .second] [(.int (1 : Int32))])) (fun t k => XS.iconst X193.her hx rfl (hb hby at_180) k) ?_
          refine own_st (f' := (mkF m 185 #[.val (.int p0), .val (.int p1), .val (.int p2), .val (.long q3), .second, .val (.long q4), .second, .val (.int (own_t0_3 p0 p1 p2 q3 q4)), .val (.int (own_t0_16 p0 p1 p2 q3 q4)), .val (.ref bm113), .val (.ref bm114), .val (.ref b115), .val (.ref b183), .val (.ref b191), .val (.long (own_t0_167 p0 p1 p2 q3 q4)), .second] [(.int (1 : Int32))])) (fun t k => XS.goto X193.her hx rfl (pc0 := 181) (pc' := 185) rfl (hb hby at_181) (by decide) (by decide) k) ?_
          refine own_retN (t := .boolean) X193 hx hret hlk (by simp) (hb hby at_185) (by first | decide | omega) (by first | decide | omega) ?_
          exact congrArg (fun q => some (Value.int q)) (by decide)
        · refine own_st (f' := (mkF m 147 #[.val (.int p0), .val (.int p1), .val (.int p2), .val (.long q3), .second, .val (.long q4), .second, .val (.int (own_t0_3 p0 p1 p2 q3 q4)), .val (.int (own_t0_16 p0 p1 p2 q3 q4)), .val (.ref bm113), .val (.ref bm114), .val (.ref b115), .val (.ref b183), .unset, .unset, .unset] [])) (fun t k => XS.icmpYes X188.her hx rfl (pc0 := 136) (pc' := 147) rfl (hb hby at_136) rfl (flt hc189).2.2.2 (by decide) (by decide) k) ?_
          refine own_newO X188 hx hZ hown (own_w75 hw) (own_w76 hw) (own_w77 hw) (hb hby at_147) (by decide) (by decide) ?_
          intro T194 h194 b194 g194 q194 X194 E194 A194 D194
          have lt_vd_b194 : vd < b194 := Nat.lt_of_lt_of_le B188_vd.lt (Nat.le_of_eq g194.symm)
          have ne_vd_b194 : vd ≠ b194 := Nat.ne_of_lt (Nat.lt_of_lt_of_le B188_vd.lt (Nat.le_of_eq g194.symm))
          have B194_vd := B188_vd.ext E194
          have lt_bg186_b194 : bg186 < b194 := Nat.lt_of_lt_of_le Bg188.lt (Nat.le_of_eq g194.symm)
          have ne_bg186_b194 : bg186 ≠ b194 := Nat.ne_of_lt (Nat.lt_of_lt_of_le Bg188.lt (Nat.le_of_eq g194.symm))
          have B194_bg186 := Bg188.ext E194
          have lt_bm113_b194 : bm113 < b194 := Nat.lt_of_lt_of_le A188_bm113.lt (Nat.le_of_eq g194.symm)
          have ne_bm113_b194 : bm113 ≠ b194 := Nat.ne_of_lt (Nat.lt_of_lt_of_le A188_bm113.lt (Nat.le_of_eq g194.symm))
          have A194_bm113 := A188_bm113.ext E194
          have lt_bm114_b194 : bm114 < b194 := Nat.lt_of_lt_of_le A188_bm114.lt (Nat.le_of_eq g194.symm)
          have ne_bm114_b194 : bm114 ≠ b194 := Nat.ne_of_lt (Nat.lt_of_lt_of_le A188_bm114.lt (Nat.le_of_eq g194.symm))
          have A194_bm114 := A188_bm114.ext E194
          have lt_b115_b194 : b115 < b194 := Nat.lt_of_lt_of_le A188_b115.lt (Nat.le_of_eq g194.symm)
          have ne_b115_b194 : b115 ≠ b194 := Nat.ne_of_lt (Nat.lt_of_lt_of_le A188_b115.lt (Nat.le_of_eq g194.symm))
          have A194_b115 := A188_b115.ext E194
          have lt_b183_b194 : b183 < b194 := Nat.lt_of_lt_of_le Ea188.lt (Nat.le_of_eq g194.symm)
          have ne_b183_b194 : b183 ≠ b194 := Nat.ne_of_lt (Nat.lt_of_lt_of_le Ea188.lt (Nat.le_of_eq g194.symm))
          have A194_b183 := Ea188.ext E194
          have F194_bm113_cents := F188_bm113_cents.ext E194
          have F194_bm114_cents := F188_bm114_cents.ext E194
          have F194_b115_modCount := F188_b115_modCount.ext E194
          have F194_b115_elementData := F188_b115_elementData.ext E194
          have F194_b115_size := F188_b115_size.ext E194
          have F194_b183_modCount := Fm188.ext E194
          have F194_b183_elementData := Fe188.ext E194
          have F194_b183_size := Fs188.ext E194
          have S194_DEFAULTCAPACITY_EMPTY_ELEMENTDATA := Sk188.ext E194
          have ga_b194 : n0 ≤ b194 := Nat.le_trans Z0 q194
          have Zn194 : n0 ≤ h194.size := Nat.le_trans Zn188 E194.1
          have F194_held : Fld Z h194 b194 "com/example/bidwright/bidwright/allocation/Supply" "held" "I" (.int (0 : Int32)) := D194 (Or.inr (own_w83 hw)) (ty := .int) (by decide)
          have F194_costs : Fld Z h194 b194 "com/example/bidwright/bidwright/allocation/Supply" "costs" "[J" .null := D194 (Or.inr (own_w129 hw)) (ty := (.array .long)) (by decide)
          have F194_revenues : Fld Z h194 b194 "com/example/bidwright/bidwright/allocation/Supply" "revenues" "[J" .null := D194 (Or.inr (own_w131 hw)) (ty := (.array .long)) (by decide)
          refine own_st (f' := (mkF m 151 #[.val (.int p0), .val (.int p1), .val (.int p2), .val (.long q3), .second, .val (.long q4), .second, .val (.int (own_t0_3 p0 p1 p2 q3 q4)), .val (.int (own_t0_16 p0 p1 p2 q3 q4)), .val (.ref bm113), .val (.ref bm114), .val (.ref b115), .val (.ref b183), .unset, .unset, .unset] [(.ref b194), (.ref b194)])) (fun t k => XS.dup X194.her hx rfl (hb hby at_150) rfl rfl k) ?_
          refine own_st (f' := (mkF m 152 #[.val (.int p0), .val (.int p1), .val (.int p2), .val (.long q3), .second, .val (.long q4), .second, .val (.int (own_t0_3 p0 p1 p2 q3 q4)), .val (.int (own_t0_16 p0 p1 p2 q3 q4)), .val (.ref bm113), .val (.ref bm114), .val (.ref b115), .val (.ref b183), .unset, .unset, .unset] [(.int p0), (.ref b194), (.ref b194)])) (fun t k => XS.iloadN X194.her hx rfl (hb hby at_151) rfl k) ?_
          refine own_st (f' := (mkF m 154 #[.val (.int p0), .val (.int p1), .val (.int p2), .val (.long q3), .second, .val (.long q4), .second, .val (.int (own_t0_3 p0 p1 p2 q3 q4)), .val (.int (own_t0_16 p0 p1 p2 q3 q4)), .val (.ref bm113), .val (.ref bm114), .val (.ref b115), .val (.ref b183), .unset, .unset, .unset] [(.ref b115), (.int p0), (.ref b194), (.ref b194)])) (fun t k => XS.aload X194.her hx rfl (hb hby at_152) rfl rfl k) ?_
          refine own_st (f' := (mkF m 156 #[.val (.int p0), .val (.int p1), .val (.int p2), .val (.long q3), .second, .val (.long q4), .second, .val (.int (own_t0_3 p0 p1 p2 q3 q4)), .val (.int (own_t0_16 p0 p1 p2 q3 q4)), .val (.ref bm113), .val (.ref bm114), .val (.ref b115), .val (.ref b183), .unset, .unset, .unset] [(.ref b183), (.ref b115), (.int p0), (.ref b194), (.ref b194)])) (fun t k => XS.aload X194.her hx rfl (hb hby at_154) rfl rfl k) ?_
          have LS195_2 : own_LS Z h194 b194 b115 [] := ⟨lt_b115_b194, A194_b115, F194_b115_size, (Or.inl rfl), own_q0⟩
          have LS195_3 : own_LS Z h194 b194 b183 [(bm114, (own_t0_42 p0 p1 p2 q3 q4)), (bm113, (own_t0_27 p0 p1 p2 q3 q4))] := ⟨lt_b183_b194, A194_b183, F194_b183_size, (Or.inr ⟨bg186, lt_bg186_b194, F194_b183_elementData, B194_bg186⟩), (own_qS ⟨lt_bm114_b194, A194_bm114, F194_bm114_cents, own_am42 p0 p1 p2 q3 q4⟩ (own_qS ⟨lt_bm113_b194, A194_bm113, F194_bm113_cents, own_am27 p0 p1 p2 q3 q4⟩ own_q0))⟩
          refine own_callC (y := (⟨"com/example/bidwright/bidwright/allocation/Supply", "<init>", "(ILjava/util/List;Ljava/util/List;)V"⟩ : MethodName)) (W := 1) [(.int p0), (.ref b115), (.ref b183)] X194 hx hZ hown rfl (own_w78 hw) (own_w79 hw) (own_w77 hw) (own_w80 hw) (by decide) (own_c13 l Z a0 hw h194 n0 Zn194 b194 p0 b115 b183 b194 _ _ A194 F194_held F194_costs F194_revenues ga_b194 (Nat.le_refl _) LS195_2 LS195_3 (by show 0 ≤ 3; decide) (by show 2 ≤ 3; decide)) (allS (Or.inr q194) all0) (by decide) (by decide) (by decide) (by decide) (by rw [hml]; rfl) own_pd14 rfl rfl (Nat.le_of_eq rfl) (hb hby at_156) ?_
          rintro v195 T195 h195 X195 K195 ⟨rfl, Ax195, Fh195, bt195, La195, Fc195, Bt195, hl195⟩
          have B195_vd := B194_vd.keep K195 (ninS ne_vd_b194 nin0)
          have B195_bg186 := B194_bg186.keep K195 (ninS ne_bg186_b194 nin0)
          have F195_bm113_cents := F194_bm113_cents.keep K195 (ninS ne_bm113_b194 nin0)
          have F195_bm114_cents := F194_bm114_cents.keep K195 (ninS ne_bm114_b194 nin0)
          have F195_b115_modCount := F194_b115_modCount.keep K195 (ninS ne_b115_b194 nin0)
          have F195_b115_elementData := F194_b115_elementData.keep K195 (ninS ne_b115_b194 nin0)
          have F195_b115_size := F194_b115_size.keep K195 (ninS ne_b115_b194 nin0)
          have F195_b183_modCount := F194_b183_modCount.keep K195 (ninS ne_b183_b194 nin0)
          have F195_b183_elementData := F194_b183_elementData.keep K195 (ninS ne_b183_b194 nin0)
          have F195_b183_size := F194_b183_size.keep K195 (ninS ne_b183_b194 nin0)
          have A195_bm113 := A194_bm113.keep K195
          have A195_bm114 := A194_bm114.keep K195
          have A195_b115 := A194_b115.keep K195
          have A195_b183 := A194_b183.keep K195
          have A195_b194 := A194.keep K195
          have Zn195 : n0 ≤ h195.size := Nat.le_trans Zn194 K195.1
          show own_G p e below _ T195 (mkF m 159 #[.val (.int p0), .val (.int p1), .val (.int p2), .val (.long q3), .second, .val (.long q4), .second, .val (.int (own_t0_3 p0 p1 p2 q3 q4)), .val (.int (own_t0_16 p0 p1 p2 q3 q4)), .val (.ref bm113), .val (.ref bm114), .val (.ref b115), .val (.ref b183), .unset, .unset, .unset] [(.ref b194)])
          refine own_st (f' := (mkF m 161 #[.val (.int p0), .val (.int p1), .val (.int p2), .val (.long q3), .second, .val (.long q4), .second, .val (.int (own_t0_3 p0 p1 p2 q3 q4)), .val (.int (own_t0_16 p0 p1 p2 q3 q4)), .val (.ref bm113), .val (.ref bm114), .val (.ref b115), .val (.ref b183), .val (.ref b194), .unset, .unset] [])) (fun t k => XS.astore X195.her hx rfl (hb hby at_159) rfl rfl (l' := #[.val (.int p0), .val (.int p1), .val (.int p2), .val (.long q3), .second, .val (.long q4), .second, .val (.int (own_t0_3 p0 p1 p2 q3 q4)), .val (.int (own_t0_16 p0 p1 p2 q3 q4)), .val (.ref bm113), .val (.ref bm114), .val (.ref b115), .val (.ref b183), .val (.ref b194), .unset, .unset]) rfl k) ?_
          refine own_st (f' := (mkF m 162 #[.val (.int p0), .val (.int p1), .val (.int p2), .val (.long q3), .second, .val (.long q4), .second, .val (.int (own_t0_3 p0 p1 p2 q3 q4)), .val (.int (own_t0_16 p0 p1 p2 q3 q4)), .val (.ref bm113), .val (.ref bm114), .val (.ref b115), .val (.ref b183), .val (.ref b194), .unset, .unset] [(.int p0)])) (fun t k => XS.iloadN X195.her hx rfl (hb hby at_161) rfl k) ?_
          refine own_st (f' := (mkF m 163 #[.val (.int p0), .val (.int p1), .val (.int p2), .val (.long q3), .second, .val (.long q4), .second, .val (.int (own_t0_3 p0 p1 p2 q3 q4)), .val (.int (own_t0_16 p0 p1 p2 q3 q4)), .val (.ref bm113), .val (.ref bm114), .val (.ref b115), .val (.ref b183), .val (.ref b194), .unset, .unset] [(.long (p0.toInt64))])) (fun t k => XS.i2l X195.her hx rfl (hb hby at_162) rfl k) ?_
          refine own_st (f' := (mkF m 165 #[.val (.int p0), .val (.int p1), .val (.int p2), .val (.long q3), .second, .val (.long q4), .second, .val (.int (own_t0_3 p0 p1 p2 q3 q4)), .val (.int (own_t0_16 p0 p1 p2 q3 q4)), .val (.ref bm113), .val (.ref bm114), .val (.ref b115), .val (.ref b183), .val (.ref b194), .unset, .unset] [(.int (own_t0_3 p0 p1 p2 q3 q4)), (.long (p0.toInt64))])) (fun t k => XS.iload X195.her hx rfl (hb hby at_163) rfl k) ?_
          refine own_st (f' := (mkF m 166 #[.val (.int p0), .val (.int p1), .val (.int p2), .val (.long q3), .second, .val (.long q4), .second, .val (.int (own_t0_3 p0 p1 p2 q3 q4)), .val (.int (own_t0_16 p0 p1 p2 q3 q4)), .val (.ref bm113), .val (.ref bm114), .val (.ref b115), .val (.ref b183), .val (.ref b194), .unset, .unset] [(.long ((own_t0_3 p0 p1 p2 q3 q4).toInt64)), (.long (p0.toInt64))])) (fun t k => XS.i2l X195.her hx rfl (hb hby at_165) rfl k) ?_
          refine own_st (f' := (mkF m 167 #[.val (.int p0), .val (.int p1), .val (.int p2), .val (.long q3), .second, .val (.long q4), .second, .val (.int (own_t0_3 p0 p1 p2 q3 q4)), .val (.int (own_t0_16 p0 p1 p2 q3 q4)), .val (.ref bm113), .val (.ref bm114), .val (.ref b115), .val (.ref b183), .val (.ref b194), .unset, .unset] [(.long ((p0.toInt64) + ((own_t0_3 p0 p1 p2 q3 q4).toInt64)))])) (fun t k => XS.ladd X195.her hx rfl (hb hby at_166) rfl k) ?_
          refine own_st (f' := (mkF m 169 #[.val (.int p0), .val (.int p1), .val (.int p2), .val (.long q3), .second, .val (.long q4), .second, .val (.int (own_t0_3 p0 p1 p2 q3 q4)), .val (.int (own_t0_16 p0 p1 p2 q3 q4)), .val (.ref bm113), .val (.ref bm114), .val (.ref b115), .val (.ref b183), .val (.ref b194), .val (.long (own_t0_167 p0 p1 p2 q3 q4)), .second] [])) (fun t k => XS.lstore X195.her hx rfl (hb hby at_167) rfl (l' := #[.val (.int p0), .val (.int p1), .val (.int p2), .val (.long q3), .second, .val (.long q4), .second, .val (.int (own_t0_3 p0 p1 p2 q3 q4)), .val (.int (own_t0_16 p0 p1 p2 q3 q4)), .val (.ref bm113), .val (.ref bm114), .val (.ref b115), .val (.ref b183), .val (.ref b194), .val (.long (own_t0_167 p0 p1 p2 q3 q4)), .second]) rfl k) ?_
          refine own_st (f' := (mkF m 171 #[.val (.int p0), .val (.int p1), .val (.int p2), .val (.long q3), .second, .val (.long q4), .second, .val (.int (own_t0_3 p0 p1 p2 q3 q4)), .val (.int (own_t0_16 p0 p1 p2 q3 q4)), .val (.ref bm113), .val (.ref bm114), .val (.ref b115), .val (.ref b183), .val (.ref b194), .val (.long (own_t0_167 p0 p1 p2 q3 q4)), .second] [(.ref b194)])) (fun t k => XS.aload X195.her hx rfl (hb hby at_169) rfl rfl k) ?_
          refine own_callVP (y := (⟨"com/example/bidwright/bidwright/allocation/Supply", "most", "()J"⟩ : MethodName)) (W := 0) [] X195 hx hZ hown (own_w132 hw) (own_w133 hw) (own_w135 hw) (own_w134 hw) (own_w77 hw) (own_w136 hw) (by decide) Ax195 (own_c22 l Z a0 hw h195 n0 Zn195 b194 p0 (1 : Int32) bt195 _ Fh195 Fc195 Bt195 (by rw [hl195]; rfl)) (by decide) (by decide) (by decide) (by decide) (by rw [hml]; rfl) own_pd11 rfl rfl (Nat.le_of_eq rfl) (hb hby at_171) ?_
          intro T196 X196
          show own_G p e below _ T196 (mkF m 174 #[.val (.int p0), .val (.int p1), .val (.int p2), .val (.long q3), .second, .val (.long q4), .second, .val (.int (own_t0_3 p0 p1 p2 q3 q4)), .val (.int (own_t0_16 p0 p1 p2 q3 q4)), .val (.ref bm113), .val (.ref bm114), .val (.ref b115), .val (.ref b183), .val (.ref b194), .val (.long (own_t0_167 p0 p1 p2 q3 q4)), .second] [(.long ((p0.toInt64 + (1 : Int32).toInt64) - 1))])
          refine own_st (f' := (mkF m 176 #[.val (.int p0), .val (.int p1), .val (.int p2), .val (.long q3), .second, .val (.long q4), .second, .val (.int (own_t0_3 p0 p1 p2 q3 q4)), .val (.int (own_t0_16 p0 p1 p2 q3 q4)), .val (.ref bm113), .val (.ref bm114), .val (.ref b115), .val (.ref b183), .val (.ref b194), .val (.long (own_t0_167 p0 p1 p2 q3 q4)), .second] [(.long (own_t0_167 p0 p1 p2 q3 q4)), (.long ((p0.toInt64 + (1 : Int32).toInt64) - 1))])) (fun t k => XS.lload X196.her hx rfl (hb hby at_174) rfl k) ?_
          refine own_st (f' := (mkF m 177 #[.val (.int p0), .val (.int p1), .val (.int p2), .val (.long q3), .second, .val (.long q4), .second, .val (.int (own_t0_3 p0 p1 p2 q3 q4)), .val (.int (own_t0_16 p0 p1 p2 q3 q4)), .val (.ref bm113), .val (.ref bm114), .val (.ref b115), .val (.ref b183), .val (.ref b194), .val (.long (own_t0_167 p0 p1 p2 q3 q4)), .second] [(.int (lcmpW ((p0.toInt64 + (1 : Int32).toInt64) - 1) (own_t0_167 p0 p1 p2 q3 q4)))])) (fun t k => XS.lcmp X196.her hx rfl (hb hby at_176) rfl k) ?_
          refine own_st (f' := (mkF m 180 #[.val (.int p0), .val (.int p1), .val (.int p2), .val (.long q3), .second, .val (.long q4), .second, .val (.int (own_t0_3 p0 p1 p2 q3 q4)), .val (.int (own_t0_16 p0 p1 p2 q3 q4)), .val (.ref bm113), .val (.ref bm114), .val (.ref b115), .val (.ref b183), .val (.ref b194), .val (.long (own_t0_167 p0 p1 p2 q3 q4)), .second] [])) (fun t k => XS.ifNo X196.her hx rfl (hb hby at_177) rfl ((if0 _ _).trans (teq ((lw_eq _ _).mpr (own_fin _ _ _ (by rw [own_nb0 p0 p1 p2 q3 q4 hc117]; decide)) : (lcmpW ((p0.toInt64 + (1 : Int32).toInt64) - 1) (own_t0_167 p0 p1 p2 q3 q4)) = (0 : Int32))).2) k) ?_
          refine own_st (f' := (mkF m 181 #[.val (.int p0), .val (.int p1), .val (.int p2), .val (.long q3), .second, .val (.long q4), .second, .val (.int (own_t0_3 p0 p1 p2 q3 q4)), .val (.int (own_t0_16 p0 p1 p2 q3 q4)), .val (.ref bm113), .val (.ref bm114), .val (.ref b115), .val (.ref b183), .val (.ref b194), .val (.long (own_t0_167 p0 p1 p2 q3 q4)), .second] [(.int (1 : Int32))])) (fun t k => XS.iconst X196.her hx rfl (hb hby at_180) k) ?_
          refine own_st (f' := (mkF m 185 #[.val (.int p0), .val (.int p1), .val (.int p2), .val (.long q3), .second, .val (.long q4), .second, .val (.int (own_t0_3 p0 p1 p2 q3 q4)), .val (.int (own_t0_16 p0 p1 p2 q3 q4)), .val (.ref bm113), .val (.ref bm114), .val (.ref b115), .val (.ref b183), .val (.ref b194), .val (.long (own_t0_167 p0 p1 p2 q3 q4)), .second] [(.int (1 : Int32))])) (fun t k => XS.goto X196.her hx rfl (pc0 := 181) (pc' := 185) rfl (hb hby at_181) (by decide) (by decide) k) ?_
          refine own_retN (t := .boolean) X196 hx hret hlk (by simp) (hb hby at_185) (by first | decide | omega) (by first | decide | omega) ?_
          exact congrArg (fun q => some (Value.int q)) (by decide)
      · refine own_st (f' := (mkF m 133 #[.val (.int p0), .val (.int p1), .val (.int p2), .val (.long q3), .second, .val (.long q4), .second, .val (.int (own_t0_3 p0 p1 p2 q3 q4)), .val (.int (own_t0_16 p0 p1 p2 q3 q4)), .val (.ref bm113), .val (.ref bm114), .val (.ref b115), .val (.ref b183), .unset, .unset, .unset] [])) (fun t k => XS.icmpYes X186.her hx rfl (pc0 := 122) (pc' := 133) rfl (hb hby at_122) rfl (flt hc187).2.2.2 (by decide) (by decide) k) ?_
        refine own_st (f' := (mkF m 135 #[.val (.int p0), .val (.int p1), .val (.int p2), .val (.long q3), .second, .val (.long q4), .second, .val (.int (own_t0_3 p0 p1 p2 q3 q4)), .val (.int (own_t0_16 p0 p1 p2 q3 q4)), .val (.ref bm113), .val (.ref bm114), .val (.ref b115), .val (.ref b183), .unset, .unset, .unset] [(.int (own_t0_16 p0 p1 p2 q3 q4))])) (fun t k => XS.iload X186.her hx rfl (hb hby at_133) rfl k) ?_
        refine own_st (f' := (mkF m 136 #[.val (.int p0), .val (.int p1), .val (.int p2), .val (.long q3), .second, .val (.long q4), .second, .val (.int (own_t0_3 p0 p1 p2 q3 q4)), .val (.int (own_t0_16 p0 p1 p2 q3 q4)), .val (.ref bm113), .val (.ref bm114), .val (.ref b115), .val (.ref b183), .unset, .unset, .unset] [(.int (2 : Int32)), (.int (own_t0_16 p0 p1 p2 q3 q4))])) (fun t k => XS.iconst X186.her hx rfl (hb hby at_135) k) ?_
        refine own_st (f' := (mkF m 147 #[.val (.int p0), .val (.int p1), .val (.int p2), .val (.long q3), .second, .val (.long q4), .second, .val (.int (own_t0_3 p0 p1 p2 q3 q4)), .val (.int (own_t0_16 p0 p1 p2 q3 q4)), .val (.ref bm113), .val (.ref bm114), .val (.ref b115), .val (.ref b183), .unset, .unset, .unset] [])) (fun t k => XS.icmpYes X186.her hx rfl (pc0 := 136) (pc' := 147) rfl (hb hby at_136) rfl (flt (own_nl (by decide) hc187 : ¬ ((2 : Int32) < (own_t0_16 p0 p1 p2 q3 q4)))).2.2.2 (by decide) (by decide) k) ?_
        refine own_newO X186 hx hZ hown (own_w75 hw) (own_w76 hw) (own_w77 hw) (hb hby at_147) (by decide) (by decide) ?_
        intro T197 h197 b197 g197 q197 X197 E197 A197 D197
        have lt_vd_b197 : vd < b197 := Nat.lt_of_lt_of_le B186_vd.lt (Nat.le_of_eq g197.symm)
        have ne_vd_b197 : vd ≠ b197 := Nat.ne_of_lt (Nat.lt_of_lt_of_le B186_vd.lt (Nat.le_of_eq g197.symm))
        have B197_vd := B186_vd.ext E197
        have lt_bg186_b197 : bg186 < b197 := Nat.lt_of_lt_of_le Bg186.lt (Nat.le_of_eq g197.symm)
        have ne_bg186_b197 : bg186 ≠ b197 := Nat.ne_of_lt (Nat.lt_of_lt_of_le Bg186.lt (Nat.le_of_eq g197.symm))
        have B197_bg186 := Bg186.ext E197
        have lt_bm113_b197 : bm113 < b197 := Nat.lt_of_lt_of_le A186_bm113.lt (Nat.le_of_eq g197.symm)
        have ne_bm113_b197 : bm113 ≠ b197 := Nat.ne_of_lt (Nat.lt_of_lt_of_le A186_bm113.lt (Nat.le_of_eq g197.symm))
        have A197_bm113 := A186_bm113.ext E197
        have lt_bm114_b197 : bm114 < b197 := Nat.lt_of_lt_of_le A186_bm114.lt (Nat.le_of_eq g197.symm)
        have ne_bm114_b197 : bm114 ≠ b197 := Nat.ne_of_lt (Nat.lt_of_lt_of_le A186_bm114.lt (Nat.le_of_eq g197.symm))
        have A197_bm114 := A186_bm114.ext E197
        have lt_b115_b197 : b115 < b197 := Nat.lt_of_lt_of_le A186_b115.lt (Nat.le_of_eq g197.symm)
        have ne_b115_b197 : b115 ≠ b197 := Nat.ne_of_lt (Nat.lt_of_lt_of_le A186_b115.lt (Nat.le_of_eq g197.symm))
        have A197_b115 := A186_b115.ext E197
        have lt_b183_b197 : b183 < b197 := Nat.lt_of_lt_of_le Ea186.lt (Nat.le_of_eq g197.symm)
        have ne_b183_b197 : b183 ≠ b197 := Nat.ne_of_lt (Nat.lt_of_lt_of_le Ea186.lt (Nat.le_of_eq g197.symm))
        have A197_b183 := Ea186.ext E197
        have F197_bm113_cents := F186_bm113_cents.ext E197
        have F197_bm114_cents := F186_bm114_cents.ext E197
        have F197_b115_modCount := F186_b115_modCount.ext E197
        have F197_b115_elementData := F186_b115_elementData.ext E197
        have F197_b115_size := F186_b115_size.ext E197
        have F197_b183_modCount := Fm186.ext E197
        have F197_b183_elementData := Fe186.ext E197
        have F197_b183_size := Fs186.ext E197
        have S197_DEFAULTCAPACITY_EMPTY_ELEMENTDATA := Sk186.ext E197
        have ga_b197 : n0 ≤ b197 := Nat.le_trans Z0 q197
        have Zn197 : n0 ≤ h197.size := Nat.le_trans Zn186 E197.1
        have F197_held : Fld Z h197 b197 "com/example/bidwright/bidwright/allocation/Supply" "held" "I" (.int (0 : Int32)) := D197 (Or.inr (own_w83 hw)) (ty := .int) (by decide)
        have F197_costs : Fld Z h197 b197 "com/example/bidwright/bidwright/allocation/Supply" "costs" "[J" .null := D197 (Or.inr (own_w129 hw)) (ty := (.array .long)) (by decide)
        have F197_revenues : Fld Z h197 b197 "com/example/bidwright/bidwright/allocation/Supply" "revenues" "[J" .null := D197 (Or.inr (own_w131 hw)) (ty := (.array .long)) (by decide)
        refine own_st (f' := (mkF m 151 #[.val (.int p0), .val (.int p1), .val (.int p2), .val (.long q3), .second, .val (.long q4), .second, .val (.int (own_t0_3 p0 p1 p2 q3 q4)), .val (.int (own_t0_16 p0 p1 p2 q3 q4)), .val (.ref bm113), .val (.ref bm114), .val (.ref b115), .val (.ref b183), .unset, .unset, .unset] [(.ref b197), (.ref b197)])) (fun t k => XS.dup X197.her hx rfl (hb hby at_150) rfl rfl k) ?_
        refine own_st (f' := (mkF m 152 #[.val (.int p0), .val (.int p1), .val (.int p2), .val (.long q3), .second, .val (.long q4), .second, .val (.int (own_t0_3 p0 p1 p2 q3 q4)), .val (.int (own_t0_16 p0 p1 p2 q3 q4)), .val (.ref bm113), .val (.ref bm114), .val (.ref b115), .val (.ref b183), .unset, .unset, .unset] [(.int p0), (.ref b197), (.ref b197)])) (fun t k => XS.iloadN X197.her hx rfl (hb hby at_151) rfl k) ?_
        refine own_st (f' := (mkF m 154 #[.val (.int p0), .val (.int p1), .val (.int p2), .val (.long q3), .second, .val (.long q4), .second, .val (.int (own_t0_3 p0 p1 p2 q3 q4)), .val (.int (own_t0_16 p0 p1 p2 q3 q4)), .val (.ref bm113), .val (.ref bm114), .val (.ref b115), .val (.ref b183), .unset, .unset, .unset] [(.ref b115), (.int p0), (.ref b197), (.ref b197)])) (fun t k => XS.aload X197.her hx rfl (hb hby at_152) rfl rfl k) ?_
        refine own_st (f' := (mkF m 156 #[.val (.int p0), .val (.int p1), .val (.int p2), .val (.long q3), .second, .val (.long q4), .second, .val (.int (own_t0_3 p0 p1 p2 q3 q4)), .val (.int (own_t0_16 p0 p1 p2 q3 q4)), .val (.ref bm113), .val (.ref bm114), .val (.ref b115), .val (.ref b183), .unset, .unset, .unset] [(.ref b183), (.ref b115), (.int p0), (.ref b197), (.ref b197)])) (fun t k => XS.aload X197.her hx rfl (hb hby at_154) rfl rfl k) ?_
        have LS198_2 : own_LS Z h197 b197 b115 [] := ⟨lt_b115_b197, A197_b115, F197_b115_size, (Or.inl rfl), own_q0⟩
        have LS198_3 : own_LS Z h197 b197 b183 [(bm114, (own_t0_42 p0 p1 p2 q3 q4))] := ⟨lt_b183_b197, A197_b183, F197_b183_size, (Or.inr ⟨bg186, lt_bg186_b197, F197_b183_elementData, B197_bg186⟩), (own_qS ⟨lt_bm114_b197, A197_bm114, F197_bm114_cents, own_am42 p0 p1 p2 q3 q4⟩ own_q0)⟩
        refine own_callC (y := (⟨"com/example/bidwright/bidwright/allocation/Supply", "<init>", "(ILjava/util/List;Ljava/util/List;)V"⟩ : MethodName)) (W := 1) [(.int p0), (.ref b115), (.ref b183)] X197 hx hZ hown rfl (own_w78 hw) (own_w79 hw) (own_w77 hw) (own_w80 hw) (by decide) (own_c13 l Z a0 hw h197 n0 Zn197 b197 p0 b115 b183 b197 _ _ A197 F197_held F197_costs F197_revenues ga_b197 (Nat.le_refl _) LS198_2 LS198_3 (by show 0 ≤ 3; decide) (by show 1 ≤ 3; decide)) (allS (Or.inr q197) all0) (by decide) (by decide) (by decide) (by decide) (by rw [hml]; rfl) own_pd14 rfl rfl (Nat.le_of_eq rfl) (hb hby at_156) ?_
        rintro v198 T198 h198 X198 K198 ⟨rfl, Ax198, Fh198, bt198, La198, Fc198, Bt198, hl198⟩
        have B198_vd := B197_vd.keep K198 (ninS ne_vd_b197 nin0)
        have B198_bg186 := B197_bg186.keep K198 (ninS ne_bg186_b197 nin0)
        have F198_bm113_cents := F197_bm113_cents.keep K198 (ninS ne_bm113_b197 nin0)
        have F198_bm114_cents := F197_bm114_cents.keep K198 (ninS ne_bm114_b197 nin0)
        have F198_b115_modCount := F197_b115_modCount.keep K198 (ninS ne_b115_b197 nin0)
        have F198_b115_elementData := F197_b115_elementData.keep K198 (ninS ne_b115_b197 nin0)
        have F198_b115_size := F197_b115_size.keep K198 (ninS ne_b115_b197 nin0)
        have F198_b183_modCount := F197_b183_modCount.keep K198 (ninS ne_b183_b197 nin0)
        have F198_b183_elementData := F197_b183_elementData.keep K198 (ninS ne_b183_b197 nin0)
        have F198_b183_size := F197_b183_size.keep K198 (ninS ne_b183_b197 nin0)
        have A198_bm113 := A197_bm113.keep K198
        have A198_bm114 := A197_bm114.keep K198
        have A198_b115 := A197_b115.keep K198
        have A198_b183 := A197_b183.keep K198
        have A198_b197 := A197.keep K198
        have Zn198 : n0 ≤ h198.size := Nat.le_trans Zn197 K198.1
        show own_G p e below _ T198 (mkF m 159 #[.val (.int p0), .val (.int p1), .val (.int p2), .val (.long q3), .second, .val (.long q4), .second, .val (.int (own_t0_3 p0 p1 p2 q3 q4)), .val (.int (own_t0_16 p0 p1 p2 q3 q4)), .val (.ref bm113), .val (.ref bm114), .val (.ref b115), .val (.ref b183), .unset, .unset, .unset] [(.ref b197)])
        refine own_st (f' := (mkF m 161 #[.val (.int p0), .val (.int p1), .val (.int p2), .val (.long q3), .second, .val (.long q4), .second, .val (.int (own_t0_3 p0 p1 p2 q3 q4)), .val (.int (own_t0_16 p0 p1 p2 q3 q4)), .val (.ref bm113), .val (.ref bm114), .val (.ref b115), .val (.ref b183), .val (.ref b197), .unset, .unset] [])) (fun t k => XS.astore X198.her hx rfl (hb hby at_159) rfl rfl (l' := #[.val (.int p0), .val (.int p1), .val (.int p2), .val (.long q3), .second, .val (.long q4), .second, .val (.int (own_t0_3 p0 p1 p2 q3 q4)), .val (.int (own_t0_16 p0 p1 p2 q3 q4)), .val (.ref bm113), .val (.ref bm114), .val (.ref b115), .val (.ref b183), .val (.ref b197), .unset, .unset]) rfl k) ?_
        refine own_st (f' := (mkF m 162 #[.val (.int p0), .val (.int p1), .val (.int p2), .val (.long q3), .second, .val (.long q4), .second, .val (.int (own_t0_3 p0 p1 p2 q3 q4)), .val (.int (own_t0_16 p0 p1 p2 q3 q4)), .val (.ref bm113), .val (.ref bm114), .val (.ref b115), .val (.ref b183), .val (.ref b197), .unset, .unset] [(.int p0)])) (fun t k => XS.iloadN X198.her hx rfl (hb hby at_161) rfl k) ?_
        refine own_st (f' := (mkF m 163 #[.val (.int p0), .val (.int p1), .val (.int p2), .val (.long q3), .second, .val (.long q4), .second, .val (.int (own_t0_3 p0 p1 p2 q3 q4)), .val (.int (own_t0_16 p0 p1 p2 q3 q4)), .val (.ref bm113), .val (.ref bm114), .val (.ref b115), .val (.ref b183), .val (.ref b197), .unset, .unset] [(.long (p0.toInt64))])) (fun t k => XS.i2l X198.her hx rfl (hb hby at_162) rfl k) ?_
        refine own_st (f' := (mkF m 165 #[.val (.int p0), .val (.int p1), .val (.int p2), .val (.long q3), .second, .val (.long q4), .second, .val (.int (own_t0_3 p0 p1 p2 q3 q4)), .val (.int (own_t0_16 p0 p1 p2 q3 q4)), .val (.ref bm113), .val (.ref bm114), .val (.ref b115), .val (.ref b183), .val (.ref b197), .unset, .unset] [(.int (own_t0_3 p0 p1 p2 q3 q4)), (.long (p0.toInt64))])) (fun t k => XS.iload X198.her hx rfl (hb hby at_163) rfl k) ?_
        refine own_st (f' := (mkF m 166 #[.val (.int p0), .val (.int p1), .val (.int p2), .val (.long q3), .second, .val (.long q4), .second, .val (.int (own_t0_3 p0 p1 p2 q3 q4)), .val (.int (own_t0_16 p0 p1 p2 q3 q4)), .val (.ref bm113), .val (.ref bm114), .val (.ref b115), .val (.ref b183), .val (.ref b197), .unset, .unset] [(.long ((own_t0_3 p0 p1 p2 q3 q4).toInt64)), (.long (p0.toInt64))])) (fun t k => XS.i2l X198.her hx rfl (hb hby at_165) rfl k) ?_
        refine own_st (f' := (mkF m 167 #[.val (.int p0), .val (.int p1), .val (.int p2), .val (.long q3), .second, .val (.long q4), .second, .val (.int (own_t0_3 p0 p1 p2 q3 q4)), .val (.int (own_t0_16 p0 p1 p2 q3 q4)), .val (.ref bm113), .val (.ref bm114), .val (.ref b115), .val (.ref b183), .val (.ref b197), .unset, .unset] [(.long ((p0.toInt64) + ((own_t0_3 p0 p1 p2 q3 q4).toInt64)))])) (fun t k => XS.ladd X198.her hx rfl (hb hby at_166) rfl k) ?_
        refine own_st (f' := (mkF m 169 #[.val (.int p0), .val (.int p1), .val (.int p2), .val (.long q3), .second, .val (.long q4), .second, .val (.int (own_t0_3 p0 p1 p2 q3 q4)), .val (.int (own_t0_16 p0 p1 p2 q3 q4)), .val (.ref bm113), .val (.ref bm114), .val (.ref b115), .val (.ref b183), .val (.ref b197), .val (.long (own_t0_167 p0 p1 p2 q3 q4)), .second] [])) (fun t k => XS.lstore X198.her hx rfl (hb hby at_167) rfl (l' := #[.val (.int p0), .val (.int p1), .val (.int p2), .val (.long q3), .second, .val (.long q4), .second, .val (.int (own_t0_3 p0 p1 p2 q3 q4)), .val (.int (own_t0_16 p0 p1 p2 q3 q4)), .val (.ref bm113), .val (.ref bm114), .val (.ref b115), .val (.ref b183), .val (.ref b197), .val (.long (own_t0_167 p0 p1 p2 q3 q4)), .second]) rfl k) ?_
        refine own_st (f' := (mkF m 171 #[.val (.int p0), .val (.int p1), .val (.int p2), .val (.long q3), .second, .val (.long q4), .second, .val (.int (own_t0_3 p0 p1 p2 q3 q4)), .val (.int (own_t0_16 p0 p1 p2 q3 q4)), .val (.ref bm113), .val (.ref bm114), .val (.ref b115), .val (.ref b183), .val (.ref b197), .val (.long (own_t0_167 p0 p1 p2 q3 q4)), .second] [(.ref b197)])) (fun t k => XS.aload X198.her hx rfl (hb hby at_169) rfl rfl k) ?_
        refine own_callVP (y := (⟨"com/example/bidwright/bidwright/allocation/Supply", "most", "()J"⟩ : MethodName)) (W := 0) [] X198 hx hZ hown (own_w132 hw) (own_w133 hw) (own_w135 hw) (own_w134 hw) (own_w77 hw) (own_w136 hw) (by decide) Ax198 (own_c22 l Z a0 hw h198 n0 Zn198 b197 p0 (1 : Int32) bt198 _ Fh198 Fc198 Bt198 (by rw [hl198]; rfl)) (by decide) (by decide) (by decide) (by decide) (by rw [hml]; rfl) own_pd11 rfl rfl (Nat.le_of_eq rfl) (hb hby at_171) ?_
        intro T199 X199
        show own_G p e below _ T199 (mkF m 174 #[.val (.int p0), .val (.int p1), .val (.int p2), .val (.long q3), .second, .val (.long q4), .second, .val (.int (own_t0_3 p0 p1 p2 q3 q4)), .val (.int (own_t0_16 p0 p1 p2 q3 q4)), .val (.ref bm113), .val (.ref bm114), .val (.ref b115), .val (.ref b183), .val (.ref b197), .val (.long (own_t0_167 p0 p1 p2 q3 q4)), .second] [(.long ((p0.toInt64 + (1 : Int32).toInt64) - 1))])
        refine own_st (f' := (mkF m 176 #[.val (.int p0), .val (.int p1), .val (.int p2), .val (.long q3), .second, .val (.long q4), .second, .val (.int (own_t0_3 p0 p1 p2 q3 q4)), .val (.int (own_t0_16 p0 p1 p2 q3 q4)), .val (.ref bm113), .val (.ref bm114), .val (.ref b115), .val (.ref b183), .val (.ref b197), .val (.long (own_t0_167 p0 p1 p2 q3 q4)), .second] [(.long (own_t0_167 p0 p1 p2 q3 q4)), (.long ((p0.toInt64 + (1 : Int32).toInt64) - 1))])) (fun t k => XS.lload X199.her hx rfl (hb hby at_174) rfl k) ?_
        refine own_st (f' := (mkF m 177 #[.val (.int p0), .val (.int p1), .val (.int p2), .val (.long q3), .second, .val (.long q4), .second, .val (.int (own_t0_3 p0 p1 p2 q3 q4)), .val (.int (own_t0_16 p0 p1 p2 q3 q4)), .val (.ref bm113), .val (.ref bm114), .val (.ref b115), .val (.ref b183), .val (.ref b197), .val (.long (own_t0_167 p0 p1 p2 q3 q4)), .second] [(.int (lcmpW ((p0.toInt64 + (1 : Int32).toInt64) - 1) (own_t0_167 p0 p1 p2 q3 q4)))])) (fun t k => XS.lcmp X199.her hx rfl (hb hby at_176) rfl k) ?_
        refine own_st (f' := (mkF m 180 #[.val (.int p0), .val (.int p1), .val (.int p2), .val (.long q3), .second, .val (.long q4), .second, .val (.int (own_t0_3 p0 p1 p2 q3 q4)), .val (.int (own_t0_16 p0 p1 p2 q3 q4)), .val (.ref bm113), .val (.ref bm114), .val (.ref b115), .val (.ref b183), .val (.ref b197), .val (.long (own_t0_167 p0 p1 p2 q3 q4)), .second] [])) (fun t k => XS.ifNo X199.her hx rfl (hb hby at_177) rfl ((if0 _ _).trans (teq ((lw_eq _ _).mpr (own_fin _ _ _ (by rw [own_nb0 p0 p1 p2 q3 q4 hc117]; decide)) : (lcmpW ((p0.toInt64 + (1 : Int32).toInt64) - 1) (own_t0_167 p0 p1 p2 q3 q4)) = (0 : Int32))).2) k) ?_
        refine own_st (f' := (mkF m 181 #[.val (.int p0), .val (.int p1), .val (.int p2), .val (.long q3), .second, .val (.long q4), .second, .val (.int (own_t0_3 p0 p1 p2 q3 q4)), .val (.int (own_t0_16 p0 p1 p2 q3 q4)), .val (.ref bm113), .val (.ref bm114), .val (.ref b115), .val (.ref b183), .val (.ref b197), .val (.long (own_t0_167 p0 p1 p2 q3 q4)), .second] [(.int (1 : Int32))])) (fun t k => XS.iconst X199.her hx rfl (hb hby at_180) k) ?_
        refine own_st (f' := (mkF m 185 #[.val (.int p0), .val (.int p1), .val (.int p2), .val (.long q3), .second, .val (.long q4), .second, .val (.int (own_t0_3 p0 p1 p2 q3 q4)), .val (.int (own_t0_16 p0 p1 p2 q3 q4)), .val (.ref bm113), .val (.ref bm114), .val (.ref b115), .val (.ref b183), .val (.ref b197), .val (.long (own_t0_167 p0 p1 p2 q3 q4)), .second] [(.int (1 : Int32))])) (fun t k => XS.goto X199.her hx rfl (pc0 := 181) (pc' := 185) rfl (hb hby at_181) (by decide) (by decide) k) ?_
        refine own_retN (t := .boolean) X199 hx hret hlk (by simp) (hb hby at_185) (by first | decide | omega) (by first | decide | omega) ?_
        exact congrArg (fun q => some (Value.int q)) (by decide)
    · refine own_st (f' := (mkF m 119 #[.val (.int p0), .val (.int p1), .val (.int p2), .val (.long q3), .second, .val (.long q4), .second, .val (.int (own_t0_3 p0 p1 p2 q3 q4)), .val (.int (own_t0_16 p0 p1 p2 q3 q4)), .val (.ref bm113), .val (.ref bm114), .val (.ref b115), .val (.ref b183), .unset, .unset, .unset] [])) (fun t k => XS.ifYes X184.her hx rfl (pc0 := 108) (pc' := 119) rfl (hb hby at_108) rfl ((if0 _ _).trans (flt hc185).2.2.2) (by decide) (by decide) k) ?_
      refine own_st (f' := (mkF m 121 #[.val (.int p0), .val (.int p1), .val (.int p2), .val (.long q3), .second, .val (.long q4), .second, .val (.int (own_t0_3 p0 p1 p2 q3 q4)), .val (.int (own_t0_16 p0 p1 p2 q3 q4)), .val (.ref bm113), .val (.ref bm114), .val (.ref b115), .val (.ref b183), .unset, .unset, .unset] [(.int (own_t0_16 p0 p1 p2 q3 q4))])) (fun t k => XS.iload X184.her hx rfl (hb hby at_119) rfl k) ?_
      refine own_st (f' := (mkF m 122 #[.val (.int p0), .val (.int p1), .val (.int p2), .val (.long q3), .second, .val (.long q4), .second, .val (.int (own_t0_3 p0 p1 p2 q3 q4)), .val (.int (own_t0_16 p0 p1 p2 q3 q4)), .val (.ref bm113), .val (.ref bm114), .val (.ref b115), .val (.ref b183), .unset, .unset, .unset] [(.int (1 : Int32)), (.int (own_t0_16 p0 p1 p2 q3 q4))])) (fun t k => XS.iconst X184.her hx rfl (hb hby at_121) k) ?_
      refine own_st (f' := (mkF m 133 #[.val (.int p0), .val (.int p1), .val (.int p2), .val (.long q3), .second, .val (.long q4), .second, .val (.int (own_t0_3 p0 p1 p2 q3 q4)), .val (.int (own_t0_16 p0 p1 p2 q3 q4)), .val (.ref bm113), .val (.ref bm114), .val (.ref b115), .val (.ref b183), .unset, .unset, .unset] [])) (fun t k => XS.icmpYes X184.her hx rfl (pc0 := 122) (pc' := 133) rfl (hb hby at_122) rfl (flt (own_nl (by decide) hc185 : ¬ ((1 : Int32) < (own_t0_16 p0 p1 p2 q3 q4)))).2.2.2 (by decide) (by decide) k) ?_
      refine own_st (f' := (mkF m 135 #[.val (.int p0), .val (.int p1), .val (.int p2), .val (.long q3), .second, .val (.long q4), .second, .val (.int (own_t0_3 p0 p1 p2 q3 q4)), .val (.int (own_t0_16 p0 p1 p2 q3 q4)), .val (.ref bm113), .val (.ref bm114), .val (.ref b115), .val (.ref b183), .unset, .unset, .unset] [(.int (own_t0_16 p0 p1 p2 q3 q4))])) (fun t k => XS.iload X184.her hx rfl (hb hby at_133) rfl k) ?_
      refine own_st (f' := (mkF m 136 #[.val (.int p0), .val (.int p1), .val (.int p2), .val (.long q3), .second, .val (.long q4), .second, .val (.int (own_t0_3 p0 p1 p2 q3 q4)), .val (.int (own_t0_16 p0 p1 p2 q3 q4)), .val (.ref bm113), .val (.ref bm114), .val (.ref b115), .val (.ref b183), .unset, .unset, .unset] [(.int (2 : Int32)), (.int (own_t0_16 p0 p1 p2 q3 q4))])) (fun t k => XS.iconst X184.her hx rfl (hb hby at_135) k) ?_
      refine own_st (f' := (mkF m 147 #[.val (.int p0), .val (.int p1), .val (.int p2), .val (.long q3), .second, .val (.long q4), .second, .val (.int (own_t0_3 p0 p1 p2 q3 q4)), .val (.int (own_t0_16 p0 p1 p2 q3 q4)), .val (.ref bm113), .val (.ref bm114), .val (.ref b115), .val (.ref b183), .unset, .unset, .unset] [])) (fun t k => XS.icmpYes X184.her hx rfl (pc0 := 136) (pc' := 147) rfl (hb hby at_136) rfl (flt (own_nl (by decide) hc185 : ¬ ((2 : Int32) < (own_t0_16 p0 p1 p2 q3 q4)))).2.2.2 (by decide) (by decide) k) ?_
      refine own_newO X184 hx hZ hown (own_w75 hw) (own_w76 hw) (own_w77 hw) (hb hby at_147) (by decide) (by decide) ?_
      intro T200 h200 b200 g200 q200 X200 E200 A200 D200
      have lt_vd_b200 : vd < b200 := Nat.lt_of_lt_of_le B184_vd.lt (Nat.le_of_eq g200.symm)
      have ne_vd_b200 : vd ≠ b200 := Nat.ne_of_lt (Nat.lt_of_lt_of_le B184_vd.lt (Nat.le_of_eq g200.symm))
      have B200_vd := B184_vd.ext E200
      have lt_bm113_b200 : bm113 < b200 := Nat.lt_of_lt_of_le A184_bm113.lt (Nat.le_of_eq g200.symm)
      have ne_bm113_b200 : bm113 ≠ b200 := Nat.ne_of_lt (Nat.lt_of_lt_of_le A184_bm113.lt (Nat.le_of_eq g200.symm))
      have A200_bm113 := A184_bm113.ext E200
      have lt_bm114_b200 : bm114 < b200 := Nat.lt_of_lt_of_le A184_bm114.lt (Nat.le_of_eq g200.symm)
      have ne_bm114_b200 : bm114 ≠ b200 := Nat.ne_of_lt (Nat.lt_of_lt_of_le A184_bm114.lt (Nat.le_of_eq g200.symm))
      have A200_bm114 := A184_bm114.ext E200
      have lt_b115_b200 : b115 < b200 := Nat.lt_of_lt_of_le A184_b115.lt (Nat.le_of_eq g200.symm)
      have ne_b115_b200 : b115 ≠ b200 := Nat.ne_of_lt (Nat.lt_of_lt_of_le A184_b115.lt (Nat.le_of_eq g200.symm))
      have A200_b115 := A184_b115.ext E200
      have lt_b183_b200 : b183 < b200 := Nat.lt_of_lt_of_le Ea184.lt (Nat.le_of_eq g200.symm)
      have ne_b183_b200 : b183 ≠ b200 := Nat.ne_of_lt (Nat.lt_of_lt_of_le Ea184.lt (Nat.le_of_eq g200.symm))
      have A200_b183 := Ea184.ext E200
      have F200_bm113_cents := F184_bm113_cents.ext E200
      have F200_bm114_cents := F184_bm114_cents.ext E200
      have F200_b115_modCount := F184_b115_modCount.ext E200
      have F200_b115_elementData := F184_b115_elementData.ext E200
      have F200_b115_size := F184_b115_size.ext E200
      have F200_b183_modCount := Fm184.ext E200
      have F200_b183_elementData := Fe184.ext E200
      have F200_b183_size := Fs184.ext E200
      have S200_DEFAULTCAPACITY_EMPTY_ELEMENTDATA := Sk184.ext E200
      have ga_b200 : n0 ≤ b200 := Nat.le_trans Z0 q200
      have Zn200 : n0 ≤ h200.size := Nat.le_trans Zn184 E200.1
      have F200_held : Fld Z h200 b200 "com/example/bidwright/bidwright/allocation/Supply" "held" "I" (.int (0 : Int32)) := D200 (Or.inr (own_w83 hw)) (ty := .int) (by decide)
      have F200_costs : Fld Z h200 b200 "com/example/bidwright/bidwright/allocation/Supply" "costs" "[J" .null := D200 (Or.inr (own_w129 hw)) (ty := (.array .long)) (by decide)
      have F200_revenues : Fld Z h200 b200 "com/example/bidwright/bidwright/allocation/Supply" "revenues" "[J" .null := D200 (Or.inr (own_w131 hw)) (ty := (.array .long)) (by decide)
      refine own_st (f' := (mkF m 151 #[.val (.int p0), .val (.int p1), .val (.int p2), .val (.long q3), .second, .val (.long q4), .second, .val (.int (own_t0_3 p0 p1 p2 q3 q4)), .val (.int (own_t0_16 p0 p1 p2 q3 q4)), .val (.ref bm113), .val (.ref bm114), .val (.ref b115), .val (.ref b183), .unset, .unset, .unset] [(.ref b200), (.ref b200)])) (fun t k => XS.dup X200.her hx rfl (hb hby at_150) rfl rfl k) ?_
      refine own_st (f' := (mkF m 152 #[.val (.int p0), .val (.int p1), .val (.int p2), .val (.long q3), .second, .val (.long q4), .second, .val (.int (own_t0_3 p0 p1 p2 q3 q4)), .val (.int (own_t0_16 p0 p1 p2 q3 q4)), .val (.ref bm113), .val (.ref bm114), .val (.ref b115), .val (.ref b183), .unset, .unset, .unset] [(.int p0), (.ref b200), (.ref b200)])) (fun t k => XS.iloadN X200.her hx rfl (hb hby at_151) rfl k) ?_
      refine own_st (f' := (mkF m 154 #[.val (.int p0), .val (.int p1), .val (.int p2), .val (.long q3), .second, .val (.long q4), .second, .val (.int (own_t0_3 p0 p1 p2 q3 q4)), .val (.int (own_t0_16 p0 p1 p2 q3 q4)), .val (.ref bm113), .val (.ref bm114), .val (.ref b115), .val (.ref b183), .unset, .unset, .unset] [(.ref b115), (.int p0), (.ref b200), (.ref b200)])) (fun t k => XS.aload X200.her hx rfl (hb hby at_152) rfl rfl k) ?_
      refine own_st (f' := (mkF m 156 #[.val (.int p0), .val (.int p1), .val (.int p2), .val (.long q3), .second, .val (.long q4), .second, .val (.int (own_t0_3 p0 p1 p2 q3 q4)), .val (.int (own_t0_16 p0 p1 p2 q3 q4)), .val (.ref bm113), .val (.ref bm114), .val (.ref b115), .val (.ref b183), .unset, .unset, .unset] [(.ref b183), (.ref b115), (.int p0), (.ref b200), (.ref b200)])) (fun t k => XS.aload X200.her hx rfl (hb hby at_154) rfl rfl k) ?_
      have LS201_2 : own_LS Z h200 b200 b115 [] := ⟨lt_b115_b200, A200_b115, F200_b115_size, (Or.inl rfl), own_q0⟩
      have LS201_3 : own_LS Z h200 b200 b183 [] := ⟨lt_b183_b200, A200_b183, F200_b183_size, (Or.inl rfl), own_q0⟩
      refine own_callC (y := (⟨"com/example/bidwright/bidwright/allocation/Supply", "<init>", "(ILjava/util/List;Ljava/util/List;)V"⟩ : MethodName)) (W := 1) [(.int p0), (.ref b115), (.ref b183)] X200 hx hZ hown rfl (own_w78 hw) (own_w79 hw) (own_w77 hw) (own_w80 hw) (by decide) (own_c13 l Z a0 hw h200 n0 Zn200 b200 p0 b115 b183 b200 _ _ A200 F200_held F200_costs F200_revenues ga_b200 (Nat.le_refl _) LS201_2 LS201_3 (by show 0 ≤ 3; decide) (by show 0 ≤ 3; decide)) (allS (Or.inr q200) all0) (by decide) (by decide) (by decide) (by decide) (by rw [hml]; rfl) own_pd14 rfl rfl (Nat.le_of_eq rfl) (hb hby at_156) ?_
      rintro v201 T201 h201 X201 K201 ⟨rfl, Ax201, Fh201, bt201, La201, Fc201, Bt201, hl201⟩
      have B201_vd := B200_vd.keep K201 (ninS ne_vd_b200 nin0)
      have F201_bm113_cents := F200_bm113_cents.keep K201 (ninS ne_bm113_b200 nin0)
      have F201_bm114_cents := F200_bm114_cents.keep K201 (ninS ne_bm114_b200 nin0)
      have F201_b115_modCount := F200_b115_modCount.keep K201 (ninS ne_b115_b200 nin0)
      have F201_b115_elementData := F200_b115_elementData.keep K201 (ninS ne_b115_b200 nin0)
      have F201_b115_size := F200_b115_size.keep K201 (ninS ne_b115_b200 nin0)
      have F201_b183_modCount := F200_b183_modCount.keep K201 (ninS ne_b183_b200 nin0)
      have F201_b183_elementData := F200_b183_elementData.keep K201 (ninS ne_b183_b200 nin0)
      have F201_b183_size := F200_b183_size.keep K201 (ninS ne_b183_b200 nin0)
      have A201_bm113 := A200_bm113.keep K201
      have A201_bm114 := A200_bm114.keep K201
      have A201_b115 := A200_b115.keep K201
      have A201_b183 := A200_b183.keep K201
      have A201_b200 := A200.keep K201
      have Zn201 : n0 ≤ h201.size := Nat.le_trans Zn200 K201.1
      show own_G p e below _ T201 (mkF m 159 #[.val (.int p0), .val (.int p1), .val (.int p2), .val (.long q3), .second, .val (.long q4), .second, .val (.int (own_t0_3 p0 p1 p2 q3 q4)), .val (.int (own_t0_16 p0 p1 p2 q3 q4)), .val (.ref bm113), .val (.ref bm114), .val (.ref b115), .val (.ref b183), .unset, .unset, .unset] [(.ref b200)])
      refine own_st (f' := (mkF m 161 #[.val (.int p0), .val (.int p1), .val (.int p2), .val (.long q3), .second, .val (.long q4), .second, .val (.int (own_t0_3 p0 p1 p2 q3 q4)), .val (.int (own_t0_16 p0 p1 p2 q3 q4)), .val (.ref bm113), .val (.ref bm114), .val (.ref b115), .val (.ref b183), .val (.ref b200), .unset, .unset] [])) (fun t k => XS.astore X201.her hx rfl (hb hby at_159) rfl rfl (l' := #[.val (.int p0), .val (.int p1), .val (.int p2), .val (.long q3), .second, .val (.long q4), .second, .val (.int (own_t0_3 p0 p1 p2 q3 q4)), .val (.int (own_t0_16 p0 p1 p2 q3 q4)), .val (.ref bm113), .val (.ref bm114), .val (.ref b115), .val (.ref b183), .val (.ref b200), .unset, .unset]) rfl k) ?_
      refine own_st (f' := (mkF m 162 #[.val (.int p0), .val (.int p1), .val (.int p2), .val (.long q3), .second, .val (.long q4), .second, .val (.int (own_t0_3 p0 p1 p2 q3 q4)), .val (.int (own_t0_16 p0 p1 p2 q3 q4)), .val (.ref bm113), .val (.ref bm114), .val (.ref b115), .val (.ref b183), .val (.ref b200), .unset, .unset] [(.int p0)])) (fun t k => XS.iloadN X201.her hx rfl (hb hby at_161) rfl k) ?_
      refine own_st (f' := (mkF m 163 #[.val (.int p0), .val (.int p1), .val (.int p2), .val (.long q3), .second, .val (.long q4), .second, .val (.int (own_t0_3 p0 p1 p2 q3 q4)), .val (.int (own_t0_16 p0 p1 p2 q3 q4)), .val (.ref bm113), .val (.ref bm114), .val (.ref b115), .val (.ref b183), .val (.ref b200), .unset, .unset] [(.long (p0.toInt64))])) (fun t k => XS.i2l X201.her hx rfl (hb hby at_162) rfl k) ?_
      refine own_st (f' := (mkF m 165 #[.val (.int p0), .val (.int p1), .val (.int p2), .val (.long q3), .second, .val (.long q4), .second, .val (.int (own_t0_3 p0 p1 p2 q3 q4)), .val (.int (own_t0_16 p0 p1 p2 q3 q4)), .val (.ref bm113), .val (.ref bm114), .val (.ref b115), .val (.ref b183), .val (.ref b200), .unset, .unset] [(.int (own_t0_3 p0 p1 p2 q3 q4)), (.long (p0.toInt64))])) (fun t k => XS.iload X201.her hx rfl (hb hby at_163) rfl k) ?_
      refine own_st (f' := (mkF m 166 #[.val (.int p0), .val (.int p1), .val (.int p2), .val (.long q3), .second, .val (.long q4), .second, .val (.int (own_t0_3 p0 p1 p2 q3 q4)), .val (.int (own_t0_16 p0 p1 p2 q3 q4)), .val (.ref bm113), .val (.ref bm114), .val (.ref b115), .val (.ref b183), .val (.ref b200), .unset, .unset] [(.long ((own_t0_3 p0 p1 p2 q3 q4).toInt64)), (.long (p0.toInt64))])) (fun t k => XS.i2l X201.her hx rfl (hb hby at_165) rfl k) ?_
      refine own_st (f' := (mkF m 167 #[.val (.int p0), .val (.int p1), .val (.int p2), .val (.long q3), .second, .val (.long q4), .second, .val (.int (own_t0_3 p0 p1 p2 q3 q4)), .val (.int (own_t0_16 p0 p1 p2 q3 q4)), .val (.ref bm113), .val (.ref bm114), .val (.ref b115), .val (.ref b183), .val (.ref b200), .unset, .unset] [(.long ((p0.toInt64) + ((own_t0_3 p0 p1 p2 q3 q4).toInt64)))])) (fun t k => XS.ladd X201.her hx rfl (hb hby at_166) rfl k) ?_
      refine own_st (f' := (mkF m 169 #[.val (.int p0), .val (.int p1), .val (.int p2), .val (.long q3), .second, .val (.long q4), .second, .val (.int (own_t0_3 p0 p1 p2 q3 q4)), .val (.int (own_t0_16 p0 p1 p2 q3 q4)), .val (.ref bm113), .val (.ref bm114), .val (.ref b115), .val (.ref b183), .val (.ref b200), .val (.long (own_t0_167 p0 p1 p2 q3 q4)), .second] [])) (fun t k => XS.lstore X201.her hx rfl (hb hby at_167) rfl (l' := #[.val (.int p0), .val (.int p1), .val (.int p2), .val (.long q3), .second, .val (.long q4), .second, .val (.int (own_t0_3 p0 p1 p2 q3 q4)), .val (.int (own_t0_16 p0 p1 p2 q3 q4)), .val (.ref bm113), .val (.ref bm114), .val (.ref b115), .val (.ref b183), .val (.ref b200), .val (.long (own_t0_167 p0 p1 p2 q3 q4)), .second]) rfl k) ?_
      refine own_st (f' := (mkF m 171 #[.val (.int p0), .val (.int p1), .val (.int p2), .val (.long q3), .second, .val (.long q4), .second, .val (.int (own_t0_3 p0 p1 p2 q3 q4)), .val (.int (own_t0_16 p0 p1 p2 q3 q4)), .val (.ref bm113), .val (.ref bm114), .val (.ref b115), .val (.ref b183), .val (.ref b200), .val (.long (own_t0_167 p0 p1 p2 q3 q4)), .second] [(.ref b200)])) (fun t k => XS.aload X201.her hx rfl (hb hby at_169) rfl rfl k) ?_
      refine own_callVP (y := (⟨"com/example/bidwright/bidwright/allocation/Supply", "most", "()J"⟩ : MethodName)) (W := 0) [] X201 hx hZ hown (own_w132 hw) (own_w133 hw) (own_w135 hw) (own_w134 hw) (own_w77 hw) (own_w136 hw) (by decide) Ax201 (own_c22 l Z a0 hw h201 n0 Zn201 b200 p0 (1 : Int32) bt201 _ Fh201 Fc201 Bt201 (by rw [hl201]; rfl)) (by decide) (by decide) (by decide) (by decide) (by rw [hml]; rfl) own_pd11 rfl rfl (Nat.le_of_eq rfl) (hb hby at_171) ?_
      intro T202 X202
      show own_G p e below _ T202 (mkF m 174 #[.val (.int p0), .val (.int p1), .val (.int p2), .val (.long q3), .second, .val (.long q4), .second, .val (.int (own_t0_3 p0 p1 p2 q3 q4)), .val (.int (own_t0_16 p0 p1 p2 q3 q4)), .val (.ref bm113), .val (.ref bm114), .val (.ref b115), .val (.ref b183), .val (.ref b200), .val (.long (own_t0_167 p0 p1 p2 q3 q4)), .second] [(.long ((p0.toInt64 + (1 : Int32).toInt64) - 1))])
      refine own_st (f' := (mkF m 176 #[.val (.int p0), .val (.int p1), .val (.int p2), .val (.long q3), .second, .val (.long q4), .second, .val (.int (own_t0_3 p0 p1 p2 q3 q4)), .val (.int (own_t0_16 p0 p1 p2 q3 q4)), .val (.ref bm113), .val (.ref bm114), .val (.ref b115), .val (.ref b183), .val (.ref b200), .val (.long (own_t0_167 p0 p1 p2 q3 q4)), .second] [(.long (own_t0_167 p0 p1 p2 q3 q4)), (.long ((p0.toInt64 + (1 : Int32).toInt64) - 1))])) (fun t k => XS.lload X202.her hx rfl (hb hby at_174) rfl k) ?_
      refine own_st (f' := (mkF m 177 #[.val (.int p0), .val (.int p1), .val (.int p2), .val (.long q3), .second, .val (.long q4), .second, .val (.int (own_t0_3 p0 p1 p2 q3 q4)), .val (.int (own_t0_16 p0 p1 p2 q3 q4)), .val (.ref bm113), .val (.ref bm114), .val (.ref b115), .val (.ref b183), .val (.ref b200), .val (.long (own_t0_167 p0 p1 p2 q3 q4)), .second] [(.int (lcmpW ((p0.toInt64 + (1 : Int32).toInt64) - 1) (own_t0_167 p0 p1 p2 q3 q4)))])) (fun t k => XS.lcmp X202.her hx rfl (hb hby at_176) rfl k) ?_
      refine own_st (f' := (mkF m 180 #[.val (.int p0), .val (.int p1), .val (.int p2), .val (.long q3), .second, .val (.long q4), .second, .val (.int (own_t0_3 p0 p1 p2 q3 q4)), .val (.int (own_t0_16 p0 p1 p2 q3 q4)), .val (.ref bm113), .val (.ref bm114), .val (.ref b115), .val (.ref b183), .val (.ref b200), .val (.long (own_t0_167 p0 p1 p2 q3 q4)), .second] [])) (fun t k => XS.ifNo X202.her hx rfl (hb hby at_177) rfl ((if0 _ _).trans (teq ((lw_eq _ _).mpr (own_fin _ _ _ (by rw [own_nb0 p0 p1 p2 q3 q4 hc117]; decide)) : (lcmpW ((p0.toInt64 + (1 : Int32).toInt64) - 1) (own_t0_167 p0 p1 p2 q3 q4)) = (0 : Int32))).2) k) ?_
      refine own_st (f' := (mkF m 181 #[.val (.int p0), .val (.int p1), .val (.int p2), .val (.long q3), .second, .val (.long q4), .second, .val (.int (own_t0_3 p0 p1 p2 q3 q4)), .val (.int (own_t0_16 p0 p1 p2 q3 q4)), .val (.ref bm113), .val (.ref bm114), .val (.ref b115), .val (.ref b183), .val (.ref b200), .val (.long (own_t0_167 p0 p1 p2 q3 q4)), .second] [(.int (1 : Int32))])) (fun t k => XS.iconst X202.her hx rfl (hb hby at_180) k) ?_
      refine own_st (f' := (mkF m 185 #[.val (.int p0), .val (.int p1), .val (.int p2), .val (.long q3), .second, .val (.long q4), .second, .val (.int (own_t0_3 p0 p1 p2 q3 q4)), .val (.int (own_t0_16 p0 p1 p2 q3 q4)), .val (.ref bm113), .val (.ref bm114), .val (.ref b115), .val (.ref b183), .val (.ref b200), .val (.long (own_t0_167 p0 p1 p2 q3 q4)), .second] [(.int (1 : Int32))])) (fun t k => XS.goto X202.her hx rfl (pc0 := 181) (pc' := 185) rfl (hb hby at_181) (by decide) (by decide) k) ?_
      refine own_retN (t := .boolean) X202 hx hret hlk (by simp) (hb hby at_185) (by first | decide | omega) (by first | decide | omega) ?_
      exact congrArg (fun q => some (Value.int q)) (by decide)
theorem own_len0 {t : Term} {args : Array Value} {s : State} {vd : Addr} {cl : Cell} (ev : t.eval args s none [] s = some (.ref vd)) (At : s.arrayAt? vd = some cl) (h : (Jvm.Cond.eq (Jvm.Term.length t) (Jvm.Term.int 0)).value args s none s [] = some true) : cl.slots = #[] := by
  by_cases hb : cl.slots.size < 2 ^ 31
  · have e := len_f ev At hb
    simp only [Cond.value, e] at h
    simp [Term.eval] at h
    have q := congrArg Int32.toInt h
    have f : cl.slots.size.toInt32.toInt = (cl.slots.size : Int) := Int32.toInt_ofNat_of_lt (by omega)
    rw [f, show (0 : Int32).toInt = 0 from rfl] at q
    exact Array.size_eq_zero_iff.mp (by omega)
  · simp [Cond.value, Term.eval, ev, At, hb] at h
set_option maxRecDepth 65536 in
set_option maxHeartbeats 40000000 in
theorem own_comes {Post : Tables → Env → Array Value → State → Outcome → State → Prop} (hpost : ∀ tb e args s v u, (limb_1_1.after args s (.returned v) u = true ∧ limb_1_2.after args s (.returned v) u = true) → FrameEnd s (.returned v) u (Jvm.fieldLocs frame_1_writes args s ++ Jvm.arrayLocs frame_1_arrays args s ++ Jvm.staticLocs frame_1_statics s) 32 192 → Post tb e args s (.returned v) u) :
    ArmFor flags0 classFile x code maxLocals ret World_1 tables_1 room_1 Calls_1 rest_1 Pre_1 Post := by
  intro l hfl _ _ p e ha hc hk s m args below hf hA hF happ hP
  obtain ⟨hcalls, hrest, hpre⟩ := hP
  obtain ⟨-, -, -, hnamed, -, -, -, hat⟩ := (Spec.applies_iff hf).mp happ
  obtain ⟨hg, hn⟩ := and_e (Cond.before_iff.mp (show (Jvm.Cond.and given_1 narrow_1).before args s = true from hpre))
  obtain ⟨g203, g204⟩ := and_e hg
  obtain ⟨g205, g206⟩ := and_e g204
  obtain ⟨g207, g208⟩ := and_e g206
  obtain ⟨g209, g210⟩ := and_e g208
  obtain ⟨g211, g212⟩ := and_e g210
  obtain ⟨w0, w1, w2, w3, w4, rfl⟩ : ∃ w0 w1 w2 w3 w4 : Value, args = #[w0, w1, w2, w3, w4] := by
    have hs : args.size = 5 := by simpa [Cond.value, given_1] using g203
    obtain ⟨L⟩ := args
    match L, hs with
    | [w0, w1, w2, w3, w4], _ => exact ⟨w0, w1, w2, w3, w4, rfl⟩
  have hw := fun d (hd : d ∈ tables_1) => atoms_spec (ws := Jvm.Cond.code x code maxLocals ret :: tables_1) hat d (List.mem_cons_of_mem _ hd)
  obtain ⟨i0, ei0⟩ := is_v g205
  obtain rfl : w0 = (.int i0) := Option.some.inj ei0
  obtain ⟨i1, ei1⟩ := is_v g207
  obtain rfl : w1 = (.int i1) := Option.some.inj ei1
  obtain ⟨i2, ei2⟩ := is_v g209
  obtain rfl : w2 = (.int i2) := Option.some.inj ei2
  obtain ⟨i3, ei3⟩ := isL_v g211
  obtain rfl : w3 = (.long i3) := Option.some.inj ei3
  obtain ⟨i4, ei4⟩ := isL_v g212
  obtain rfl : w4 = (.long i4) := Option.some.inj ei4
  obtain ⟨hsets, -⟩ := atoms_of _ (rest_1_c_eq ▸ (show rest_1_c.before _ s = true from hrest))
  have b7 := Cond.before_iff.mp (hsets _ (List.mem_of_getElem? (i := 7) rfl))
  obtain ⟨vd, ev⟩ := exa_v b7
  obtain ⟨cl, Ar⟩ := Arr.start ev (Cond.before_iff.mp (hsets _ (List.mem_of_getElem? (i := 6) rfl)))
  have BE : own_EA s s.heap vd := ⟨cl, Ar, own_len0 ev (Ar.fin (Vm.Alike.refl _)) (Cond.before_iff.mp (hsets _ (List.mem_of_getElem? (i := 8) rfl)))⟩
  have S0 := Sta.start ev (Or.inr ⟨own_w25 hw, hsets _ (List.mem_of_getElem? (i := 2) rfl)⟩)
  obtain ⟨n, o, h1, h2, h3, v, L, rfl, ⟨N, -, hv⟩, hq⟩ := own_c0 l s _ hw s.heap s.heap.size (Nat.le_refl _) i0 i1 i2 i3 i4 vd BE S0 p e ha hc hk s m _ below hf ((Spec.applies_iff_loose hf).mp happ).1 ⟨rfl, State.Warmed39.refl s, rfl⟩ trivial
  obtain rfl : v = some (.int 1) := hv
  refine ⟨n, _, h1, h2, h3, hpost _ _ _ _ _ _ ⟨Cond.after_iff.mpr rfl, Cond.after_iff.mpr (eq_i res_at (Term.int_eval (1)) rfl)⟩ ⟨hq.1, hq.2.1, (hq.2.2.sift fun y hy => Or.inr (N y hy)).mono (by decide) (by decide)⟩⟩
theorem main_1_1 : Claimed_1_1 := own_comes fun _ _ _ _ _ _ h hF => ⟨h.1, hF⟩
theorem main_1_2 : Claimed_1_2 := own_comes fun _ _ _ _ _ _ h hF => ⟨h.2, hF⟩
end Jvm.Pilot.@@N@@
namespace Jvm.Pilot.@@N@@
open Jvm Jvm.ClassFile Sem Op Lib Jvm.Free Jvm.Stand Jvm.Pilot.@@N@@.Jvm.D
/-! MADE BY PROGRAM (witnessworld.py) out of the Statement's table words and the real class files: 25 classes; the members and pool entries that the words name. The judged class is class 1, her method 1. -/
namespace start1
open Jvm.ClassFile
def u (s : String) : CpInfo := .utf8 (stringToUtf16 s)
/-- a pool by its gaps: so many unusable entries, then the entry; so many at the end -/
def gap : Nat → List CpInfo → List CpInfo
  | 0, r => r
  | n + 1, r => .unusable :: gap n r
def poolList (es : List (Nat × CpInfo)) (last : Nat) : List CpInfo := es.foldr (fun e r => gap e.1 (e.2 :: r)) (gap last [])
def pool (es : List (Nat × CpInfo)) (last : Nat) : Array CpInfo := ⟨poolList es last⟩
def fileOf (pool : Array CpInfo) (this : Nat) (attrs : Array Attribute := #[]) (ms : Array MethodInfo := #[]) (fl : Nat := 33) (sup : Nat := 0) (ifs : Array Nat := #[]) (fds : Array FieldInfo := #[]) : ClassFile where
  minorVersion := 0
  majorVersion := 65
  constantPool := pool
  accessFlags := fl
  thisClass := this
  superClass := sup
  interfaces := ifs
  fields := fds
  methods := ms
  attributes := attrs
def plain (name : String) (sup : Option ClassId) : Class where
  name := name
  kind := .ordinary
  loader := none
  accessFlags := 33
  super := sup
  interfaces := #[]
  cf := none
  fields := #[]
  methods := #[]
  instanceTypes := #[]
  staticTypes := #[]
  resolved := #[]
  callSites := []
  init := .initialized
  statics := none
  mirror := none

def pool0 : Array CpInfo := pool [(5, u "<init>"), (0, u "()V"), (1, .class_ 10), (1, u "java/lang/Object")] 113

def k0c0 : Code := { maxStack := 0, maxLocals := 1, code := object_method_1_code, exceptionTable := #[], attributes := #[] }
def k0m0 : Method := { name := "<init>", desc := "()V", sig := { parameters := [], returnType := none }, accessFlags := 1, code := some k0c0 }
/-- java/lang/Object -/
def k0 : Class := { plain "java/lang/Object" none with
  accessFlags := 33
  interfaces := #[]
  cf := some (fileOf pool0 8 #[] #[{ accessFlags := 1, nameIndex := 5, descriptorIndex := 6, attributes := #[] }] 33 0 #[] #[])
  fields := #[]
  methods := #[k0m0]
  instanceTypes := #[]
  staticTypes := #[]
  resolved := Array.replicate 124 none
  statics := none }

def pool1 : Array CpInfo := pool [(2, .class_ 4), (0, .nameAndType 5 6), (0, u "java/lang/Object"), (0, u "<init>"), (0, u "()V"), (0, .methodref 8 9), (0, .class_ 10), (0, .nameAndType 11 12), (0, u "java/lang/Math"), (0, u "max"), (0, u "(II)I"), (0, .methodref 8 14), (0, .nameAndType 15 12), (0, u "min"), (0, .long 16777215), (1, .long 10000001), (1, .methodref 21 22), (0, .class_ 23), (0, .nameAndType 24 25), (0, u "com/example/bidwright/bidwright/market/Money"), (0, u "cents"), (0, u "(J)Lcom/example/bidwright/bidwright/market/Money;"), (0, .class_ 27), (0, u "java/util/ArrayList"), (0, .methodref 26 3), (0, .methodref 26 30), (0, .nameAndType 31 32), (0, u "add"), (0, u "(Ljava/lang/Object;)Z"), (0, .class_ 34), (0, u "com/example/bidwright/bidwright/allocation/Supply"), (0, .methodref 33 36), (0, .nameAndType 5 37), (0, u "(ILjava/util/List;Ljava/util/List;)V"), (0, .methodref 33 39), (0, .nameAndType 40 41), (0, u "most"), (0, u "()J"), (0, .class_ 43), (0, u "com/example/bidwright/bidwright/allocation/SupplyMostPinLaw"), (2, u "law"), (0, u "(IIIJJ)Z")] 3

def k1m0 : Method := { name := "<init>", desc := "()V", sig := { parameters := [], returnType := none }, accessFlags := 1, code := none }
def k1c1 : Code := { maxStack := 5, maxLocals := 16, code := code, exceptionTable := #[], attributes := #[] }
def k1m1 : Method := { name := "law", desc := "(IIIJJ)Z", sig := { parameters := [.int, .int, .int, .long, .long], returnType := some .boolean }, accessFlags := 9, code := some k1c1 }
/-- com/example/bidwright/bidwright/allocation/SupplyMostPinLaw -/
def k1 : Class := { plain "com/example/bidwright/bidwright/allocation/SupplyMostPinLaw" (some 0) with
  accessFlags := 49
  interfaces := #[]
  cf := some (fileOf pool1 42 #[] #[{ accessFlags := 1, nameIndex := 5, descriptorIndex := 6, attributes := #[] }, { accessFlags := 9, nameIndex := 46, descriptorIndex := 47, attributes := #[] }] 49 2 #[] #[])
  fields := #[]
  methods := #[k1m0, k1m1]
  instanceTypes := #[]
  staticTypes := #[]
  resolved := Array.replicate 51 none
  statics := none }

def pool2 : Array CpInfo := pool [(1, .class_ 2), (0, u "java/lang/Math"), (1, .class_ 6), (1, u "java/lang/Object"), (0, u "<init>"), (0, u "()V"), (89, .class_ 100), (1, u "java/lang/Math$RandomNumberGeneratorHolder"), (20, u "(JJ)J"), (50, u "negativeZeroFloatBits"), (0, u "J"), (2, u "negativeZeroDoubleBits"), (21, u "max"), (2, u "min"), (43, u "$assertionsDisabled"), (0, u "Z"), (88, u "(II)I"), (2, u "twoToTheDoubleScaleDown"), (0, u "D"), (4, u "twoToTheDoubleScaleUp"), (9, u "E"), (3, u "PI"), (2, u "TAU"), (2, u "DEGREES_TO_RADIANS"), (0, u "RADIANS_TO_DEGREES"), (27, u "addExact")] 66

def k2m0 : Method := { name := "<init>", desc := "()V", sig := { parameters := [], returnType := none }, accessFlags := 2, code := none }
def k2c1 : Code := { maxStack := 6, maxLocals := 6, code := jdk_29_method_25_code, exceptionTable := #[], attributes := #[] }
def k2m1 : Method := { name := "addExact", desc := "(JJ)J", sig := { parameters := [.long, .long], returnType := some .long }, accessFlags := 9, code := some k2c1 }
def k2c2 : Code := { maxStack := 2, maxLocals := 2, code := jdk_29_method_65_code, exceptionTable := #[], attributes := #[] }
def k2m2 : Method := { name := "max", desc := "(II)I", sig := { parameters := [.int, .int], returnType := some .int }, accessFlags := 9, code := some k2c2 }
def k2c3 : Code := { maxStack := 2, maxLocals := 2, code := jdk_29_method_69_code, exceptionTable := #[], attributes := #[] }
def k2m3 : Method := { name := "min", desc := "(II)I", sig := { parameters := [.int, .int], returnType := some .int }, accessFlags := 9, code := some k2c3 }
/-- java/lang/Math -/
def k2 : Class := { plain "java/lang/Math" (some 0) with
  accessFlags := 49
  interfaces := #[]
  cf := some (fileOf pool2 1 #[.nestMembers #[98]] #[{ accessFlags := 2, nameIndex := 7, descriptorIndex := 8, attributes := #[] }, { accessFlags := 9, nameIndex := 393, descriptorIndex := 121, attributes := #[] }, { accessFlags := 9, nameIndex := 198, descriptorIndex := 335, attributes := #[] }, { accessFlags := 9, nameIndex := 201, descriptorIndex := 335, attributes := #[] }] 49 4 #[] #[{ accessFlags := 25, nameIndex := 354, descriptorIndex := 339, attributes := #[] }, { accessFlags := 25, nameIndex := 358, descriptorIndex := 339, attributes := #[] }, { accessFlags := 25, nameIndex := 361, descriptorIndex := 339, attributes := #[] }, { accessFlags := 26, nameIndex := 364, descriptorIndex := 339, attributes := #[] }, { accessFlags := 26, nameIndex := 365, descriptorIndex := 339, attributes := #[] }, { accessFlags := 26, nameIndex := 172, descriptorIndex := 173, attributes := #[] }, { accessFlags := 26, nameIndex := 176, descriptorIndex := 173, attributes := #[] }, { accessFlags := 8, nameIndex := 344, descriptorIndex := 339, attributes := #[] }, { accessFlags := 8, nameIndex := 338, descriptorIndex := 339, attributes := #[] }, { accessFlags := 4120, nameIndex := 245, descriptorIndex := 246, attributes := #[] }])
  fields := #[{ name := "E", type := .double, accessFlags := 25, slot := 0, constantValue := 0 }, { name := "PI", type := .double, accessFlags := 25, slot := 1, constantValue := 0 }, { name := "TAU", type := .double, accessFlags := 25, slot := 2, constantValue := 0 }, { name := "DEGREES_TO_RADIANS", type := .double, accessFlags := 26, slot := 3, constantValue := 0 }, { name := "RADIANS_TO_DEGREES", type := .double, accessFlags := 26, slot := 4, constantValue := 0 }, { name := "negativeZeroFloatBits", type := .long, accessFlags := 26, slot := 5, constantValue := 0 }, { name := "negativeZeroDoubleBits", type := .long, accessFlags := 26, slot := 6, constantValue := 0 }, { name := "twoToTheDoubleScaleUp", type := .double, accessFlags := 8, slot := 7, constantValue := 0 }, { name := "twoToTheDoubleScaleDown", type := .double, accessFlags := 8, slot := 8, constantValue := 0 }, { name := "$assertionsDisabled", type := .boolean, accessFlags := 4120, slot := 9, constantValue := 0 }]
  methods := #[k2m0, k2m1, k2m2, k2m3]
  instanceTypes := #[]
  staticTypes := #[.double, .double, .double, .double, .double, .long, .long, .double, .double, .boolean]
  resolved := Array.replicate 460 none
  statics := none }

def pool3 : Array CpInfo := pool [(1, .class_ 2), (0, u "java/lang/Comparable"), (0, .class_ 4), (0, u "java/lang/Object")] 7

/-- java/lang/Comparable -/
def k3 : Class := { plain "java/lang/Comparable" (some 0) with
  accessFlags := 1537
  interfaces := #[]
  cf := some (fileOf pool3 1 #[] #[] 1537 3 #[] #[])
  fields := #[]
  methods := #[]
  instanceTypes := #[]
  staticTypes := #[]
  resolved := Array.replicate 12 none
  statics := none }

def pool4 : Array CpInfo := pool [(1, .methodref 2 3), (0, .class_ 4), (0, .nameAndType 5 6), (0, u "java/lang/Object"), (0, u "<init>"), (0, u "()V"), (0, .fieldref 8 9), (0, .class_ 10), (0, .nameAndType 11 12), (0, u "com/example/bidwright/bidwright/market/Money"), (0, u "cents"), (0, u "J"), (6, .methodref 8 20), (0, .nameAndType 5 21), (0, u "(J)V"), (2, u "TEXT"), (0, u "Ljava/util/regex/Pattern;"), (89, u "ZERO"), (0, u "Lcom/example/bidwright/bidwright/market/Money;"), (6, .class_ 124), (0, u "java/lang/Comparable"), (0, u "CENTS_PER_DOLLAR"), (0, u "I"), (5, u "(J)Lcom/example/bidwright/bidwright/market/Money;"), (0, u "toCents"), (0, u "()J")] 43

def k4c0 : Code := { maxStack := 3, maxLocals := 3, code := prog_111_method_1_code, exceptionTable := #[], attributes := #[] }
def k4m0 : Method := { name := "<init>", desc := "(J)V", sig := { parameters := [.long], returnType := none }, accessFlags := 2, code := some k4c0 }
def k4c1 : Code := { maxStack := 4, maxLocals := 2, code := prog_111_method_3_code, exceptionTable := #[], attributes := #[] }
def k4m1 : Method := { name := "cents", desc := "(J)Lcom/example/bidwright/bidwright/market/Money;", sig := { parameters := [.long], returnType := some (.object "com/example/bidwright/bidwright/market/Money") }, accessFlags := 9, code := some k4c1 }
def k4c2 : Code := { maxStack := 2, maxLocals := 1, code := prog_111_method_4_code, exceptionTable := #[], attributes := #[] }
def k4m2 : Method := { name := "toCents", desc := "()J", sig := { parameters := [], returnType := some .long }, accessFlags := 1, code := some k4c2 }
/-- com/example/bidwright/bidwright/market/Money -/
def k4 : Class := { plain "com/example/bidwright/bidwright/market/Money" (some 0) with
  accessFlags := 49
  interfaces := #[3]
  cf := some (fileOf pool4 8 #[] #[{ accessFlags := 2, nameIndex := 5, descriptorIndex := 21, attributes := #[] }, { accessFlags := 9, nameIndex := 11, descriptorIndex := 132, attributes := #[] }, { accessFlags := 1, nameIndex := 133, descriptorIndex := 134, attributes := #[] }] 49 2 #[123] #[{ accessFlags := 25, nameIndex := 115, descriptorIndex := 116, attributes := #[] }, { accessFlags := 26, nameIndex := 125, descriptorIndex := 126, attributes := #[] }, { accessFlags := 26, nameIndex := 24, descriptorIndex := 25, attributes := #[] }, { accessFlags := 18, nameIndex := 11, descriptorIndex := 12, attributes := #[] }])
  fields := #[{ name := "ZERO", type := (.object "com/example/bidwright/bidwright/market/Money"), accessFlags := 25, slot := 0, constantValue := 0 }, { name := "CENTS_PER_DOLLAR", type := .int, accessFlags := 26, slot := 1, constantValue := 0 }, { name := "TEXT", type := (.object "java/util/regex/Pattern"), accessFlags := 26, slot := 2, constantValue := 0 }, { name := "cents", type := .long, accessFlags := 18, slot := 0, constantValue := 0 }]
  methods := #[k4m0, k4m1, k4m2]
  instanceTypes := #[.long]
  staticTypes := #[(.object "com/example/bidwright/bidwright/market/Money"), .int, (.object "java/util/regex/Pattern")]
  resolved := Array.replicate 178 none
  statics := none }

def pool5 : Array CpInfo := pool [(8, .class_ 10), (1, u "java/lang/Iterable"), (24, .class_ 36), (0, u "java/lang/Object")] 25

/-- java/lang/Iterable -/
def k5 : Class := { plain "java/lang/Iterable" (some 0) with
  accessFlags := 1537
  interfaces := #[]
  cf := some (fileOf pool5 8 #[] #[] 1537 35 #[] #[])
  fields := #[]
  methods := #[]
  instanceTypes := #[]
  staticTypes := #[]
  resolved := Array.replicate 62 none
  statics := none }

def pool6 : Array CpInfo := pool [(10, .class_ 12), (1, u "java/util/Collection"), (47, .class_ 61), (0, u "java/lang/Object"), (0, .class_ 63), (0, u "java/lang/Iterable")] 51

/-- java/util/Collection -/
def k6 : Class := { plain "java/util/Collection" (some 0) with
  accessFlags := 1537
  interfaces := #[5]
  cf := some (fileOf pool6 10 #[] #[] 1537 60 #[62] #[])
  fields := #[]
  methods := #[]
  instanceTypes := #[]
  staticTypes := #[]
  resolved := Array.replicate 115 none
  statics := none }

def pool7 : Array CpInfo := pool [(1, .methodref 2 3), (0, .class_ 4), (0, .nameAndType 5 6), (0, u "java/lang/Object"), (0, u "<init>"), (0, u "()V"), (1, .class_ 10), (1, u "java/util/AbstractCollection"), (66, .class_ 78), (0, u "java/util/Collection")] 81

def k7c0 : Code := { maxStack := 1, maxLocals := 1, code := jdk_22_method_1_code, exceptionTable := #[], attributes := #[] }
def k7m0 : Method := { name := "<init>", desc := "()V", sig := { parameters := [], returnType := none }, accessFlags := 4, code := some k7c0 }
/-- java/util/AbstractCollection -/
def k7 : Class := { plain "java/util/AbstractCollection" (some 0) with
  accessFlags := 1057
  interfaces := #[6]
  cf := some (fileOf pool7 8 #[] #[{ accessFlags := 4, nameIndex := 5, descriptorIndex := 6, attributes := #[] }] 1057 2 #[77] #[])
  fields := #[]
  methods := #[k7m0]
  instanceTypes := #[]
  staticTypes := #[]
  resolved := Array.replicate 160 none
  statics := none }

def pool8 : Array CpInfo := pool [(8, .class_ 10), (1, u "java/util/SequencedCollection"), (15, .class_ 27), (0, u "java/lang/Object"), (0, .class_ 29), (0, u "java/util/Collection")] 27

/-- java/util/SequencedCollection -/
def k8 : Class := { plain "java/util/SequencedCollection" (some 0) with
  accessFlags := 1537
  interfaces := #[6]
  cf := some (fileOf pool8 8 #[] #[] 1537 26 #[28] #[])
  fields := #[]
  methods := #[]
  instanceTypes := #[]
  staticTypes := #[]
  resolved := Array.replicate 57 none
  statics := none }

def pool9 : Array CpInfo := pool [(8, .class_ 10), (1, u "java/util/List"), (64, u "get"), (0, u "(I)Ljava/lang/Object;"), (2, u "size"), (0, u "()I"), (22, .class_ 104), (0, u "java/lang/Object"), (15, .class_ 121), (0, u "java/util/SequencedCollection")] 129

def k9m0 : Method := { name := "size", desc := "()I", sig := { parameters := [], returnType := some .int }, accessFlags := 1025, code := none }
def k9m1 : Method := { name := "get", desc := "(I)Ljava/lang/Object;", sig := { parameters := [.int], returnType := some (.object "java/lang/Object") }, accessFlags := 1025, code := none }
/-- java/util/List -/
def k9 : Class := { plain "java/util/List" (some 0) with
  accessFlags := 1537
  interfaces := #[8]
  cf := some (fileOf pool9 8 #[] #[{ accessFlags := 1025, nameIndex := 79, descriptorIndex := 80, attributes := #[] }, { accessFlags := 1025, nameIndex := 75, descriptorIndex := 76, attributes := #[] }] 1537 103 #[120] #[])
  fields := #[]
  methods := #[k9m0, k9m1]
  instanceTypes := #[]
  staticTypes := #[]
  resolved := Array.replicate 251 none
  statics := none }

def pool10 : Array CpInfo := pool [(1, .methodref 2 3), (0, .class_ 4), (0, .nameAndType 5 6), (0, u "java/util/AbstractCollection"), (0, u "<init>"), (0, u "()V"), (0, .fieldref 8 9), (0, .class_ 10), (0, .nameAndType 11 12), (0, u "java/util/AbstractList"), (0, u "modCount"), (0, u "I"), (64, .class_ 78), (0, u "java/util/AbstractList$Itr"), (3, .class_ 83), (0, u "java/util/AbstractList$ListItr"), (9, .class_ 94), (0, u "java/util/AbstractList$RandomAccessSubList"), (3, .class_ 99), (0, u "java/util/AbstractList$SubList"), (33, .class_ 134), (0, u "java/util/List"), (73, .class_ 209), (0, u "java/util/AbstractList$SubList$1"), (0, .class_ 211), (0, u "java/util/AbstractList$RandomAccessSpliterator")] 6

def k10c0 : Code := { maxStack := 2, maxLocals := 1, code := jdk_39_method_1_code, exceptionTable := #[], attributes := #[] }
def k10m0 : Method := { name := "<init>", desc := "()V", sig := { parameters := [], returnType := none }, accessFlags := 4, code := some k10c0 }
/-- java/util/AbstractList -/
def k10 : Class := { plain "java/util/AbstractList" (some 7) with
  accessFlags := 1057
  interfaces := #[9]
  cf := some (fileOf pool10 8 #[.nestMembers #[93, 98, 208, 210, 82, 77]] #[{ accessFlags := 4, nameIndex := 5, descriptorIndex := 6, attributes := #[] }] 1057 2 #[133] #[{ accessFlags := 132, nameIndex := 11, descriptorIndex := 12, attributes := #[] }])
  fields := #[{ name := "modCount", type := .int, accessFlags := 132, slot := 0, constantValue := 0 }]
  methods := #[k10m0]
  instanceTypes := #[.int]
  staticTypes := #[]
  resolved := Array.replicate 218 none
  statics := none }

def pool11 : Array CpInfo := pool [(1, .class_ 2), (0, u "java/util/RandomAccess"), (0, .class_ 4), (0, u "java/lang/Object")] 2

/-- java/util/RandomAccess -/
def k11 : Class := { plain "java/util/RandomAccess" (some 0) with
  accessFlags := 1537
  interfaces := #[]
  cf := some (fileOf pool11 1 #[] #[] 1537 3 #[] #[])
  fields := #[]
  methods := #[]
  instanceTypes := #[]
  staticTypes := #[]
  resolved := Array.replicate 7 none
  statics := none }

def pool12 : Array CpInfo := pool [(1, .class_ 2), (0, u "java/lang/Cloneable"), (0, .class_ 4), (0, u "java/lang/Object")] 2

/-- java/lang/Cloneable -/
def k12 : Class := { plain "java/lang/Cloneable" (some 0) with
  accessFlags := 1537
  interfaces := #[]
  cf := some (fileOf pool12 1 #[] #[] 1537 3 #[] #[])
  fields := #[]
  methods := #[]
  instanceTypes := #[]
  staticTypes := #[]
  resolved := Array.replicate 7 none
  statics := none }

def pool13 : Array CpInfo := pool [(1, .class_ 2), (0, u "java/io/Serializable"), (0, .class_ 4), (0, u "java/lang/Object")] 2

/-- java/io/Serializable -/
def k13 : Class := { plain "java/io/Serializable" (some 0) with
  accessFlags := 1537
  interfaces := #[]
  cf := some (fileOf pool13 1 #[] #[] 1537 3 #[] #[])
  fields := #[]
  methods := #[]
  instanceTypes := #[]
  staticTypes := #[]
  resolved := Array.replicate 7 none
  statics := none }

def pool14 : Array CpInfo := pool [(1, .methodref 2 3), (0, .class_ 4), (0, .nameAndType 5 6), (0, u "java/util/AbstractList"), (0, u "<init>"), (0, u "()V"), (0, .class_ 8), (0, u "java/lang/Object"), (0, .fieldref 10 11), (0, .class_ 12), (0, .nameAndType 13 14), (0, u "java/util/ArrayList"), (0, u "elementData"), (0, u "[Ljava/lang/Object;"), (2, u "EMPTY_ELEMENTDATA"), (21, .fieldref 10 40), (0, .nameAndType 41 14), (0, u "DEFAULTCAPACITY_EMPTY_ELEMENTDATA"), (5, u "()[Ljava/lang/Object;"), (0, .fieldref 10 49), (0, .nameAndType 50 51), (0, u "size"), (0, u "I"), (11, .fieldref 10 64), (0, .nameAndType 65 51), (0, u "modCount"), (3, .methodref 10 70), (0, .nameAndType 71 72), (0, u "grow"), (0, u "(I)[Ljava/lang/Object;"), (6, .methodref 80 81), (0, .class_ 82), (0, .nameAndType 83 84), (0, u "java/lang/Math"), (0, u "max"), (0, u "(II)I"), (11, u "(Ljava/lang/Object;)Z"), (21, .methodref 119 120), (0, .class_ 121), (0, .nameAndType 122 84), (0, u "java/util/Objects"), (0, u "checkIndex"), (0, .methodref 10 124), (0, .nameAndType 13 125), (0, u "(I)Ljava/lang/Object;"), (3, .methodref 10 130), (0, .nameAndType 71 47), (0, .methodref 10 132), (0, .nameAndType 133 134), (0, u "add"), (0, u "(Ljava/lang/Object;[Ljava/lang/Object;I)V"), (13, .class_ 149), (0, u "java/util/List"), (36, u "()I"), (75, .class_ 263), (0, u "java/util/ArrayList$ListItr"), (3, .class_ 268), (0, u "java/util/ArrayList$Itr"), (7, .class_ 277), (0, u "java/util/ArrayList$SubList"), (12, .class_ 291), (0, u "java/util/ArrayList$ArrayListSpliterator"), (37, .class_ 330), (0, u "java/util/RandomAccess"), (0, .class_ 332), (0, u "java/lang/Cloneable"), (0, .class_ 334), (0, u "java/io/Serializable"), (0, u "serialVersionUID"), (0, u "J"), (3, u "DEFAULT_CAPACITY"), (40, u "get"), (118, .class_ 501), (0, u "java/util/ArrayList$SubList$2"), (0, .class_ 503), (0, u "java/util/ArrayList$SubList$1")] 5

def k14c0 : Code := { maxStack := 2, maxLocals := 1, code := jdk_38_method_2_code, exceptionTable := #[], attributes := #[] }
def k14m0 : Method := { name := "<init>", desc := "()V", sig := { parameters := [], returnType := none }, accessFlags := 1, code := some k14c0 }
def k14c1 : Code := { maxStack := 4, maxLocals := 4, code := jdk_38_method_6_code, exceptionTable := #[], attributes := #[] }
def k14m1 : Method := { name := "grow", desc := "(I)[Ljava/lang/Object;", sig := { parameters := [.int], returnType := some (.array (.object "java/lang/Object")) }, accessFlags := 2, code := some k14c1 }
def k14c2 : Code := { maxStack := 3, maxLocals := 1, code := jdk_38_method_7_code, exceptionTable := #[], attributes := #[] }
def k14m2 : Method := { name := "grow", desc := "()[Ljava/lang/Object;", sig := { parameters := [], returnType := some (.array (.object "java/lang/Object")) }, accessFlags := 2, code := some k14c2 }
def k14c3 : Code := { maxStack := 1, maxLocals := 1, code := jdk_38_method_8_code, exceptionTable := #[], attributes := #[] }
def k14m3 : Method := { name := "size", desc := "()I", sig := { parameters := [], returnType := some .int }, accessFlags := 1, code := some k14c3 }
def k14c4 : Code := { maxStack := 2, maxLocals := 2, code := jdk_38_method_18_code, exceptionTable := #[], attributes := #[] }
def k14m4 : Method := { name := "elementData", desc := "(I)Ljava/lang/Object;", sig := { parameters := [.int], returnType := some (.object "java/lang/Object") }, accessFlags := 0, code := some k14c4 }
def k14c5 : Code := { maxStack := 2, maxLocals := 2, code := jdk_38_method_20_code, exceptionTable := #[], attributes := #[] }
def k14m5 : Method := { name := "get", desc := "(I)Ljava/lang/Object;", sig := { parameters := [.int], returnType := some (.object "java/lang/Object") }, accessFlags := 1, code := some k14c5 }
def k14c6 : Code := { maxStack := 3, maxLocals := 4, code := jdk_38_method_24_code, exceptionTable := #[], attributes := #[] }
def k14m6 : Method := { name := "add", desc := "(Ljava/lang/Object;[Ljava/lang/Object;I)V", sig := { parameters := [(.object "java/lang/Object"), (.array (.object "java/lang/Object")), .int], returnType := none }, accessFlags := 2, code := some k14c6 }
def k14c7 : Code := { maxStack := 4, maxLocals := 2, code := jdk_38_method_25_code, exceptionTable := #[], attributes := #[] }
def k14m7 : Method := { name := "add", desc := "(Ljava/lang/Object;)Z", sig := { parameters := [(.object "java/lang/Object")], returnType := some .boolean }, accessFlags := 1, code := some k14c7 }
/-- java/util/ArrayList -/
def k14 : Class := { plain "java/util/ArrayList" (some 10) with
  accessFlags := 33
  interfaces := #[9, 11, 12, 13]
  cf := some (fileOf pool14 10 #[.nestMembers #[290, 276, 500, 502, 262, 267]] #[{ accessFlags := 1, nameIndex := 5, descriptorIndex := 6, attributes := #[] }, { accessFlags := 2, nameIndex := 71, descriptorIndex := 72, attributes := #[] }, { accessFlags := 2, nameIndex := 71, descriptorIndex := 47, attributes := #[] }, { accessFlags := 1, nameIndex := 50, descriptorIndex := 186, attributes := #[] }, { accessFlags := 0, nameIndex := 13, descriptorIndex := 125, attributes := #[] }, { accessFlags := 1, nameIndex := 381, descriptorIndex := 125, attributes := #[] }, { accessFlags := 2, nameIndex := 133, descriptorIndex := 134, attributes := #[] }, { accessFlags := 1, nameIndex := 133, descriptorIndex := 96, attributes := #[] }] 33 2 #[148, 329, 331, 333] #[{ accessFlags := 26, nameIndex := 335, descriptorIndex := 336, attributes := #[] }, { accessFlags := 26, nameIndex := 340, descriptorIndex := 51, attributes := #[] }, { accessFlags := 26, nameIndex := 17, descriptorIndex := 14, attributes := #[] }, { accessFlags := 26, nameIndex := 41, descriptorIndex := 14, attributes := #[] }, { accessFlags := 128, nameIndex := 13, descriptorIndex := 14, attributes := #[] }, { accessFlags := 2, nameIndex := 50, descriptorIndex := 51, attributes := #[] }])
  fields := #[{ name := "serialVersionUID", type := .long, accessFlags := 26, slot := 0, constantValue := 0 }, { name := "DEFAULT_CAPACITY", type := .int, accessFlags := 26, slot := 1, constantValue := 0 }, { name := "EMPTY_ELEMENTDATA", type := (.array (.object "java/lang/Object")), accessFlags := 26, slot := 2, constantValue := 0 }, { name := "DEFAULTCAPACITY_EMPTY_ELEMENTDATA", type := (.array (.object "java/lang/Object")), accessFlags := 26, slot := 3, constantValue := 0 }, { name := "elementData", type := (.array (.object "java/lang/Object")), accessFlags := 128, slot := 1, constantValue := 0 }, { name := "size", type := .int, accessFlags := 2, slot := 2, constantValue := 0 }]
  methods := #[k14m0, k14m1, k14m2, k14m3, k14m4, k14m5, k14m6, k14m7]
  instanceTypes := #[.int, (.array (.object "java/lang/Object")), .int]
  staticTypes := #[.long, .int, (.array (.object "java/lang/Object")), (.array (.object "java/lang/Object"))]
  resolved := Array.replicate 509 none
  statics := some 0 }

def pool15 : Array CpInfo := pool [(1, .methodref 2 3), (0, .class_ 4), (0, .nameAndType 5 6), (0, u "java/lang/Object"), (0, u "<init>"), (0, u "()V"), (0, .fieldref 8 9), (0, .class_ 10), (0, .nameAndType 11 12), (0, u "com/example/bidwright/bidwright/allocation/Supply"), (0, u "held"), (0, u "I"), (0, .methodref 8 14), (0, .nameAndType 15 16), (0, u "runningTotals"), (0, u "(Ljava/util/List;)[J"), (0, .fieldref 8 18), (0, .nameAndType 19 20), (0, u "costs"), (0, u "[J"), (0, .fieldref 8 22), (0, .nameAndType 23 20), (0, u "revenues"), (13, u "()I"), (23, .interfaceMethodref 62 63), (0, .class_ 64), (0, .nameAndType 65 37), (0, u "java/util/List"), (0, u "size"), (29, u "(ILjava/util/List;Ljava/util/List;)V"), (0, .interfaceMethodref 62 97), (0, .nameAndType 98 99), (0, u "get"), (0, u "(I)Ljava/lang/Object;"), (0, .class_ 101), (0, u "com/example/bidwright/bidwright/market/Money"), (0, .methodref 100 103), (0, .nameAndType 104 105), (0, u "toCents"), (0, u "()J"), (0, .methodref 107 108), (0, .class_ 109), (0, .nameAndType 110 111), (0, u "java/lang/Math"), (0, u "addExact"), (0, u "(JJ)J"), (2, u "most"), (8, .class_ 125), (1, u "com/example/bidwright/bidwright/allocation/Supply$Trade")] 57

def k15c0 : Code := { maxStack := 2, maxLocals := 4, code := prog_52_method_1_code, exceptionTable := #[], attributes := #[] }
def k15m0 : Method := { name := "<init>", desc := "(ILjava/util/List;Ljava/util/List;)V", sig := { parameters := [.int, (.object "java/util/List"), (.object "java/util/List")], returnType := none }, accessFlags := 0, code := some k15c0 }
def k15c1 : Code := { maxStack := 6, maxLocals := 3, code := prog_52_method_4_code, exceptionTable := #[], attributes := #[] }
def k15m1 : Method := { name := "runningTotals", desc := "(Ljava/util/List;)[J", sig := { parameters := [(.object "java/util/List")], returnType := some (.array .long) }, accessFlags := 10, code := some k15c1 }
def k15c2 : Code := { maxStack := 4, maxLocals := 1, code := prog_52_method_5_code, exceptionTable := #[], attributes := #[] }
def k15m2 : Method := { name := "most", desc := "()J", sig := { parameters := [], returnType := some .long }, accessFlags := 0, code := some k15c2 }
/-- com/example/bidwright/bidwright/allocation/Supply -/
def k15 : Class := { plain "com/example/bidwright/bidwright/allocation/Supply" (some 0) with
  accessFlags := 48
  interfaces := #[]
  cf := some (fileOf pool15 8 #[.nestMembers #[123]] #[{ accessFlags := 0, nameIndex := 5, descriptorIndex := 95, attributes := #[] }, { accessFlags := 10, nameIndex := 15, descriptorIndex := 16, attributes := #[] }, { accessFlags := 0, nameIndex := 114, descriptorIndex := 105, attributes := #[] }] 48 2 #[] #[{ accessFlags := 18, nameIndex := 11, descriptorIndex := 12, attributes := #[] }, { accessFlags := 18, nameIndex := 19, descriptorIndex := 20, attributes := #[] }, { accessFlags := 18, nameIndex := 23, descriptorIndex := 20, attributes := #[] }])
  fields := #[{ name := "held", type := .int, accessFlags := 18, slot := 0, constantValue := 0 }, { name := "costs", type := (.array .long), accessFlags := 18, slot := 1, constantValue := 0 }, { name := "revenues", type := (.array .long), accessFlags := 18, slot := 2, constantValue := 0 }]
  methods := #[k15m0, k15m1, k15m2]
  instanceTypes := #[.int, (.array .long), (.array .long)]
  staticTypes := #[]
  resolved := Array.replicate 183 none
  statics := none }

def pool16 : Array CpInfo := pool [(2, .class_ 4), (1, u "java/lang/Object"), (0, u "<init>"), (0, u "()V"), (35, .class_ 44), (1, u "java/util/Objects"), (60, .methodref 106 107), (0, .class_ 108), (0, .nameAndType 109 110), (0, u "jdk/internal/util/Preconditions"), (0, u "checkIndex"), (0, u "(IILjava/util/function/BiFunction;)I"), (60, u "(II)I")] 12

def k16m0 : Method := { name := "<init>", desc := "()V", sig := { parameters := [], returnType := none }, accessFlags := 2, code := none }
def k16c1 : Code := { maxStack := 3, maxLocals := 2, code := jdk_31_method_17_code, exceptionTable := #[], attributes := #[] }
def k16m1 : Method := { name := "checkIndex", desc := "(II)I", sig := { parameters := [.int, .int], returnType := some .int }, accessFlags := 9, code := some k16c1 }
/-- java/util/Objects -/
def k16 : Class := { plain "java/util/Objects" (some 0) with
  accessFlags := 49
  interfaces := #[]
  cf := some (fileOf pool16 42 #[] #[{ accessFlags := 2, nameIndex := 5, descriptorIndex := 6, attributes := #[] }, { accessFlags := 9, nameIndex := 109, descriptorIndex := 171, attributes := #[] }] 49 2 #[] #[])
  fields := #[]
  methods := #[k16m0, k16m1]
  instanceTypes := #[]
  staticTypes := #[]
  resolved := Array.replicate 184 none
  statics := none }

def pool17 : Array CpInfo := pool [(2, .class_ 4), (1, u "java/lang/Object"), (0, u "<init>"), (0, u "()V"), (17, .class_ 26), (1, u "jdk/internal/util/Preconditions"), (6, u "checkIndex"), (21, .class_ 56), (0, u "jdk/internal/util/Preconditions$4"), (57, .class_ 115), (0, u "jdk/internal/util/Preconditions$1"), (7, u "SIOOBE_FORMATTER"), (0, u "Ljava/util/function/BiFunction;"), (0, .class_ 126), (0, u "jdk/internal/util/Preconditions$2"), (3, u "AIOOBE_FORMATTER"), (0, .class_ 132), (0, u "jdk/internal/util/Preconditions$3"), (3, u "IOOBE_FORMATTER"), (41, u "(IILjava/util/function/BiFunction;)I")] 15

def k17m0 : Method := { name := "<init>", desc := "()V", sig := { parameters := [], returnType := none }, accessFlags := 1, code := none }
def k17c1 : Code := { maxStack := 3, maxLocals := 3, code := jdk_41_method_11_code, exceptionTable := #[], attributes := #[] }
def k17m1 : Method := { name := "checkIndex", desc := "(IILjava/util/function/BiFunction;)I", sig := { parameters := [.int, .int, (.object "java/util/function/BiFunction")], returnType := some .int }, accessFlags := 9, code := some k17c1 }
/-- jdk/internal/util/Preconditions -/
def k17 : Class := { plain "jdk/internal/util/Preconditions" (some 0) with
  accessFlags := 33
  interfaces := #[]
  cf := some (fileOf pool17 24 #[.nestMembers #[55, 131, 125, 114]] #[{ accessFlags := 1, nameIndex := 5, descriptorIndex := 6, attributes := #[] }, { accessFlags := 9, nameIndex := 33, descriptorIndex := 178, attributes := #[] }] 33 2 #[] #[{ accessFlags := 25, nameIndex := 123, descriptorIndex := 124, attributes := #[] }, { accessFlags := 25, nameIndex := 130, descriptorIndex := 124, attributes := #[] }, { accessFlags := 25, nameIndex := 136, descriptorIndex := 124, attributes := #[] }])
  fields := #[{ name := "SIOOBE_FORMATTER", type := (.object "java/util/function/BiFunction"), accessFlags := 25, slot := 0, constantValue := 0 }, { name := "AIOOBE_FORMATTER", type := (.object "java/util/function/BiFunction"), accessFlags := 25, slot := 1, constantValue := 0 }, { name := "IOOBE_FORMATTER", type := (.object "java/util/function/BiFunction"), accessFlags := 25, slot := 2, constantValue := 0 }]
  methods := #[k17m0, k17m1]
  instanceTypes := #[]
  staticTypes := #[(.object "java/util/function/BiFunction"), (.object "java/util/function/BiFunction"), (.object "java/util/function/BiFunction")]
  resolved := Array.replicate 194 none
  statics := none }

/-- the primitive byte -/
def k18 : Class := { plain "byte" none with kind := .primitive 'B', accessFlags := 0x411 }
/-- [B -/
def k19 : Class := { plain "[B" (some 0) with kind := .array 18 .byte, interfaces := #[12, 13], accessFlags := 1041 }

/-- the primitive int -/
def k20 : Class := { plain "int" none with kind := .primitive 'I', accessFlags := 0x411 }
/-- [I -/
def k21 : Class := { plain "[I" (some 0) with kind := .array 20 .int, interfaces := #[12, 13], accessFlags := 1041 }

/-- the primitive long -/
def k22 : Class := { plain "long" none with kind := .primitive 'J', accessFlags := 0x411 }
/-- [J -/
def k23 : Class := { plain "[J" (some 0) with kind := .array 22 .long, interfaces := #[12, 13], accessFlags := 1041 }

/-- [Ljava/lang/Object; -/
def k24 : Class := { plain "[Ljava/lang/Object;" (some 0) with kind := .array 0 (.object "java/lang/Object"), interfaces := #[12, 13], accessFlags := 1041 }

def heap : Heap := #[{ cls := 14, slots := #[.long 0, .int 0, .ref 1, .ref 2], vm := .statics 14 },
  { cls := 24, slots := #[], vm := .none },
  { cls := 24, slots := #[], vm := .none }]
def classes : Array Class := #[k0, k1, k2, k3, k4, k5, k6, k7, k8, k9, k10, k11, k12, k13, k14, k15, k16, k17, k18, k19, k20, k21, k22, k23, k24]
def interned : List (Array UInt16 × Addr) := []
def slotsUsed : Nat := 4
def theMethod : MethodId := ⟨1, 1⟩
def args0 : Array Value := #[.int 7, .int 3, .int 2, .long 5, .long 6]
def aboutOver (below : List Frame) : State where
  vm := { classes := classes, interned := interned.toArray }
  heap := heap
  slotsUsed := slotsUsed
  threads := #[{ frames := .invoking theMethod args0 :: below }]
def below0 : List Frame := [.native { method := ⟨0, 0⟩, args := #[] }]
def about1 : State := aboutOver below0
def p0 : Program := .bare "" "" ""
def e0 : Env := launch0.env 0 0 0
theorem w_frames : about1.frames = Frame.invoking theMethod args0 :: below0 := rfl
set_option maxRecDepth 65536 in
theorem w_args : argsFit about1.vm theMethod args0 = true := by decide +kernel
set_option maxRecDepth 65536 in
theorem w_heap : heapFits about1 = true := by decide +kernel
set_option maxRecDepth 65536 in
theorem w_runnable : about1.curStatus? = some .runnable := by decide +kernel
set_option maxRecDepth 65536 in
theorem w_alone : about1.alone = true := by decide +kernel
set_option maxRecDepth 65536 in
theorem w_named : about1.methodNamed? x = some theMethod := by decide +kernel
set_option maxRecDepth 65536 in
theorem w_hears : about1.hears theMethod below0 = true := by decide +kernel
set_option maxRecDepth 65536 in
theorem w_ripe : about1.ripe theMethod args0 below0 = true := by decide +kernel
theorem w_running : about1.status = .running := rfl
set_option maxRecDepth 65536 in
theorem w_room : about1.hasRoom e0.platform room_1 = true :=
  launch0.hasRoom_least _ room_1 (by decide +kernel) (by decide +kernel) (by decide +kernel) (by decide +kernel) (by decide +kernel) (by decide +kernel)
theorem allAtoms_all (ts : List Jvm.Cond) (a : Array Jvm.Value) (st : Jvm.State) : (allAtoms ts).before a st = ts.all (fun c => c.before a st) := by
  induction ts with
  | nil => rfl
  | cons c t ih =>
    show (Jvm.Cond.and c (allAtoms t)).before a st = _
    rw [Jvm.Cond.before_and, ih, List.all_cons]
def words1 : List Jvm.Cond := Jvm.Cond.code x code maxLocals ret :: tables_1
/-- a 'code' word, met by the world's own term for the bytes: nothing is compared byte by byte -/
theorem code_word {y : MethodName} {bytes : ByteArray} {mx : Nat} {rt : Option FieldType} {a : Array Value} {s : State} {m : MethodId} {meth : Method} {c : Code} (h1 : s.methodNamed? y = some m) (h2 : s.vm.method? m = some meth) (h3 : meth.code = some c) (h4 : c.code = bytes)
    (h5 : (c.maxLocals == mx && c.exceptionTable.isEmpty && decide (c.maxStack ≤ mostOperands) && decide (meth.sig.returnType = rt) && !meth.locks && decide (parseMethodDescriptor y.desc = some meth.sig)) = true) : (Jvm.Cond.code y bytes mx rt).before a s = true := by
  simp only [Bool.and_eq_true, beq_iff_eq, Bool.not_eq_true', decide_eq_true_eq] at h5
  obtain ⟨⟨⟨⟨⟨g1, g2⟩, g3⟩, g4⟩, g5⟩, g6⟩ := h5
  simp [Cond.before, Cond.holds, Cond.value, h1, h2, h3, h4, g1, g2, g3, g4, g5, g6]
def isCode : Jvm.Cond → Bool
  | .code _ _ _ _ => true
  | _ => false
theorem all_split {L : List Jvm.Cond} {P : Jvm.Cond → Bool} (h1 : L.all (fun c => isCode c || P c) = true) (h2 : ∀ c ∈ L.filter isCode, P c = true) : L.all P = true := by
  refine List.all_eq_true.mpr fun c hc => ?_
  have h := List.all_eq_true.mp h1 c hc
  rcases Bool.eq_false_or_eq_true (isCode c) with hi | hi
  · exact h2 c (List.mem_filter.mpr ⟨hc, hi⟩)
  · simpa [hi] using h
set_option maxRecDepth 65536 in
theorem w_c0 : (Jvm.Cond.code x code maxLocals ret).before args0 about1 = true := code_word (m := ⟨1, 1⟩) (meth := k1m1) (c := k1c1) (by decide +kernel) rfl rfl rfl (by decide +kernel)
set_option maxRecDepth 65536 in
theorem w_c1 : (Jvm.Cond.code ({ cls := "java/lang/Math", name := "max", desc := "(II)I" } : Jvm.MethodName) jdk_29_method_65_code (2 : Nat) (Option.some Jvm.ClassFile.FieldType.int)).before args0 about1 = true := code_word (m := ⟨2, 2⟩) (meth := k2m2) (c := k2c2) (by decide +kernel) rfl rfl rfl (by decide +kernel)
set_option maxRecDepth 65536 in
theorem w_c2 : (Jvm.Cond.code ({ cls := "java/lang/Math", name := "min", desc := "(II)I" } : Jvm.MethodName) jdk_29_method_69_code (2 : Nat) (Option.some Jvm.ClassFile.FieldType.int)).before args0 about1 = true := code_word (m := ⟨2, 3⟩) (meth := k2m3) (c := k2c3) (by decide +kernel) rfl rfl rfl (by decide +kernel)
set_option maxRecDepth 65536 in
theorem w_c3 : (Jvm.Cond.code ({ cls := "com/example/bidwright/bidwright/market/Money", name := "cents", desc := "(J)Lcom/example/bidwright/bidwright/market/Money;" } : Jvm.MethodName) prog_111_method_3_code (2 : Nat) (Option.some (Jvm.ClassFile.FieldType.object "com/example/bidwright/bidwright/market/Money"))).before args0 about1 = true := code_word (m := ⟨4, 1⟩) (meth := k4m1) (c := k4c1) (by decide +kernel) rfl rfl rfl (by decide +kernel)
set_option maxRecDepth 65536 in
theorem w_c4 : (Jvm.Cond.code ({ cls := "com/example/bidwright/bidwright/market/Money", name := "<init>", desc := "(J)V" } : Jvm.MethodName) prog_111_method_1_code (3 : Nat) (Option.none : Option Jvm.ClassFile.FieldType)).before args0 about1 = true := code_word (m := ⟨4, 0⟩) (meth := k4m0) (c := k4c0) (by decide +kernel) rfl rfl rfl (by decide +kernel)
set_option maxRecDepth 65536 in
theorem w_c5 : (Jvm.Cond.code ({ cls := "java/lang/Object", name := "<init>", desc := "()V" } : Jvm.MethodName) object_method_1_code (1 : Nat) (Option.none : Option Jvm.ClassFile.FieldType)).before args0 about1 = true := code_word (m := ⟨0, 0⟩) (meth := k0m0) (c := k0c0) (by decide +kernel) rfl rfl rfl (by decide +kernel)
set_option maxRecDepth 65536 in
theorem w_c6 : (Jvm.Cond.code ({ cls := "java/util/ArrayList", name := "<init>", desc := "()V" } : Jvm.MethodName) jdk_38_method_2_code (1 : Nat) (Option.none : Option Jvm.ClassFile.FieldType)).before args0 about1 = true := code_word (m := ⟨14, 0⟩) (meth := k14m0) (c := k14c0) (by decide +kernel) rfl rfl rfl (by decide +kernel)
set_option maxRecDepth 65536 in
theorem w_c7 : (Jvm.Cond.code ({ cls := "java/util/AbstractList", name := "<init>", desc := "()V" } : Jvm.MethodName) jdk_39_method_1_code (1 : Nat) (Option.none : Option Jvm.ClassFile.FieldType)).before args0 about1 = true := code_word (m := ⟨10, 0⟩) (meth := k10m0) (c := k10c0) (by decide +kernel) rfl rfl rfl (by decide +kernel)
set_option maxRecDepth 65536 in
theorem w_c8 : (Jvm.Cond.code ({ cls := "java/util/AbstractCollection", name := "<init>", desc := "()V" } : Jvm.MethodName) jdk_22_method_1_code (1 : Nat) (Option.none : Option Jvm.ClassFile.FieldType)).before args0 about1 = true := code_word (m := ⟨7, 0⟩) (meth := k7m0) (c := k7c0) (by decide +kernel) rfl rfl rfl (by decide +kernel)
set_option maxRecDepth 65536 in
theorem w_c9 : (Jvm.Cond.code ({ cls := "java/util/ArrayList", name := "add", desc := "(Ljava/lang/Object;)Z" } : Jvm.MethodName) jdk_38_method_25_code (2 : Nat) (Option.some Jvm.ClassFile.FieldType.boolean)).before args0 about1 = true := code_word (m := ⟨14, 7⟩) (meth := k14m7) (c := k14c7) (by decide +kernel) rfl rfl rfl (by decide +kernel)
set_option maxRecDepth 65536 in
theorem w_c10 : (Jvm.Cond.code ({ cls := "java/util/ArrayList", name := "add", desc := "(Ljava/lang/Object;[Ljava/lang/Object;I)V" } : Jvm.MethodName) jdk_38_method_24_code (4 : Nat) (Option.none : Option Jvm.ClassFile.FieldType)).before args0 about1 = true := code_word (m := ⟨14, 6⟩) (meth := k14m6) (c := k14c6) (by decide +kernel) rfl rfl rfl (by decide +kernel)
set_option maxRecDepth 65536 in
theorem w_c11 : (Jvm.Cond.code ({ cls := "java/util/ArrayList", name := "grow", desc := "()[Ljava/lang/Object;" } : Jvm.MethodName) jdk_38_method_7_code (1 : Nat) (Option.some (Jvm.ClassFile.FieldType.array (Jvm.ClassFile.FieldType.object "java/lang/Object")))).before args0 about1 = true := code_word (m := ⟨14, 2⟩) (meth := k14m2) (c := k14c2) (by decide +kernel) rfl rfl rfl (by decide +kernel)
set_option maxRecDepth 65536 in
theorem w_c12 : (Jvm.Cond.code ({ cls := "java/util/ArrayList", name := "grow", desc := "(I)[Ljava/lang/Object;" } : Jvm.MethodName) jdk_38_method_6_code (4 : Nat) (Option.some (Jvm.ClassFile.FieldType.array (Jvm.ClassFile.FieldType.object "java/lang/Object")))).before args0 about1 = true := code_word (m := ⟨14, 1⟩) (meth := k14m1) (c := k14c1) (by decide +kernel) rfl rfl rfl (by decide +kernel)
set_option maxRecDepth 65536 in
theorem w_c13 : (Jvm.Cond.code ({ cls := "com/example/bidwright/bidwright/allocation/Supply", name := "<init>", desc := "(ILjava/util/List;Ljava/util/List;)V" } : Jvm.MethodName) prog_52_method_1_code (4 : Nat) (Option.none : Option Jvm.ClassFile.FieldType)).before args0 about1 = true := code_word (m := ⟨15, 0⟩) (meth := k15m0) (c := k15c0) (by decide +kernel) rfl rfl rfl (by decide +kernel)
set_option maxRecDepth 65536 in
theorem w_c14 : (Jvm.Cond.code ({ cls := "com/example/bidwright/bidwright/allocation/Supply", name := "runningTotals", desc := "(Ljava/util/List;)[J" } : Jvm.MethodName) prog_52_method_4_code (3 : Nat) (Option.some (Jvm.ClassFile.FieldType.array Jvm.ClassFile.FieldType.long))).before args0 about1 = true := code_word (m := ⟨15, 1⟩) (meth := k15m1) (c := k15c1) (by decide +kernel) rfl rfl rfl (by decide +kernel)
set_option maxRecDepth 65536 in
theorem w_c15 : (Jvm.Cond.code ({ cls := "java/util/ArrayList", name := "size", desc := "()I" } : Jvm.MethodName) jdk_38_method_8_code (1 : Nat) (Option.some Jvm.ClassFile.FieldType.int)).before args0 about1 = true := code_word (m := ⟨14, 3⟩) (meth := k14m3) (c := k14c3) (by decide +kernel) rfl rfl rfl (by decide +kernel)
set_option maxRecDepth 65536 in
theorem w_c16 : (Jvm.Cond.code ({ cls := "java/util/ArrayList", name := "get", desc := "(I)Ljava/lang/Object;" } : Jvm.MethodName) jdk_38_method_20_code (2 : Nat) (Option.some (Jvm.ClassFile.FieldType.object "java/lang/Object"))).before args0 about1 = true := code_word (m := ⟨14, 5⟩) (meth := k14m5) (c := k14c5) (by decide +kernel) rfl rfl rfl (by decide +kernel)
set_option maxRecDepth 65536 in
theorem w_c17 : (Jvm.Cond.code ({ cls := "java/util/Objects", name := "checkIndex", desc := "(II)I" } : Jvm.MethodName) jdk_31_method_17_code (2 : Nat) (Option.some Jvm.ClassFile.FieldType.int)).before args0 about1 = true := code_word (m := ⟨16, 1⟩) (meth := k16m1) (c := k16c1) (by decide +kernel) rfl rfl rfl (by decide +kernel)
set_option maxRecDepth 65536 in
theorem w_c18 : (Jvm.Cond.code ({ cls := "jdk/internal/util/Preconditions", name := "checkIndex", desc := "(IILjava/util/function/BiFunction;)I" } : Jvm.MethodName) jdk_41_method_11_code (3 : Nat) (Option.some Jvm.ClassFile.FieldType.int)).before args0 about1 = true := code_word (m := ⟨17, 1⟩) (meth := k17m1) (c := k17c1) (by decide +kernel) rfl rfl rfl (by decide +kernel)
set_option maxRecDepth 65536 in
theorem w_c19 : (Jvm.Cond.code ({ cls := "java/util/ArrayList", name := "elementData", desc := "(I)Ljava/lang/Object;" } : Jvm.MethodName) jdk_38_method_18_code (2 : Nat) (Option.some (Jvm.ClassFile.FieldType.object "java/lang/Object"))).before args0 about1 = true := code_word (m := ⟨14, 4⟩) (meth := k14m4) (c := k14c4) (by decide +kernel) rfl rfl rfl (by decide +kernel)
set_option maxRecDepth 65536 in
theorem w_c20 : (Jvm.Cond.code ({ cls := "com/example/bidwright/bidwright/market/Money", name := "toCents", desc := "()J" } : Jvm.MethodName) prog_111_method_4_code (1 : Nat) (Option.some Jvm.ClassFile.FieldType.long)).before args0 about1 = true := code_word (m := ⟨4, 2⟩) (meth := k4m2) (c := k4c2) (by decide +kernel) rfl rfl rfl (by decide +kernel)
set_option maxRecDepth 65536 in
theorem w_c21 : (Jvm.Cond.code ({ cls := "java/lang/Math", name := "addExact", desc := "(JJ)J" } : Jvm.MethodName) jdk_29_method_25_code (6 : Nat) (Option.some Jvm.ClassFile.FieldType.long)).before args0 about1 = true := code_word (m := ⟨2, 1⟩) (meth := k2m1) (c := k2c1) (by decide +kernel) rfl rfl rfl (by decide +kernel)
set_option maxRecDepth 65536 in
theorem w_c22 : (Jvm.Cond.code ({ cls := "com/example/bidwright/bidwright/allocation/Supply", name := "most", desc := "()J" } : Jvm.MethodName) prog_52_method_5_code (1 : Nat) (Option.some Jvm.ClassFile.FieldType.long)).before args0 about1 = true := code_word (m := ⟨15, 2⟩) (meth := k15m2) (c := k15c2) (by decide +kernel) rfl rfl rfl (by decide +kernel)
def codes1 : List Jvm.Cond := [Jvm.Cond.code x code maxLocals ret, Jvm.Cond.code ({ cls := "java/lang/Math", name := "max", desc := "(II)I" } : Jvm.MethodName) jdk_29_method_65_code (2 : Nat) (Option.some Jvm.ClassFile.FieldType.int), Jvm.Cond.code ({ cls := "java/lang/Math", name := "min", desc := "(II)I" } : Jvm.MethodName) jdk_29_method_69_code (2 : Nat) (Option.some Jvm.ClassFile.FieldType.int), Jvm.Cond.code ({ cls := "com/example/bidwright/bidwright/market/Money", name := "cents", desc := "(J)Lcom/example/bidwright/bidwright/market/Money;" } : Jvm.MethodName) prog_111_method_3_code (2 : Nat) (Option.some (Jvm.ClassFile.FieldType.object "com/example/bidwright/bidwright/market/Money")), Jvm.Cond.code ({ cls := "com/example/bidwright/bidwright/market/Money", name := "<init>", desc := "(J)V" } : Jvm.MethodName) prog_111_method_1_code (3 : Nat) (Option.none : Option Jvm.ClassFile.FieldType), Jvm.Cond.code ({ cls := "java/lang/Object", name := "<init>", desc := "()V" } : Jvm.MethodName) object_method_1_code (1 : Nat) (Option.none : Option Jvm.ClassFile.FieldType), Jvm.Cond.code ({ cls := "java/util/ArrayList", name := "<init>", desc := "()V" } : Jvm.MethodName) jdk_38_method_2_code (1 : Nat) (Option.none : Option Jvm.ClassFile.FieldType), Jvm.Cond.code ({ cls := "java/util/AbstractList", name := "<init>", desc := "()V" } : Jvm.MethodName) jdk_39_method_1_code (1 : Nat) (Option.none : Option Jvm.ClassFile.FieldType), Jvm.Cond.code ({ cls := "java/util/AbstractCollection", name := "<init>", desc := "()V" } : Jvm.MethodName) jdk_22_method_1_code (1 : Nat) (Option.none : Option Jvm.ClassFile.FieldType), Jvm.Cond.code ({ cls := "java/util/ArrayList", name := "add", desc := "(Ljava/lang/Object;)Z" } : Jvm.MethodName) jdk_38_method_25_code (2 : Nat) (Option.some Jvm.ClassFile.FieldType.boolean), Jvm.Cond.code ({ cls := "java/util/ArrayList", name := "add", desc := "(Ljava/lang/Object;[Ljava/lang/Object;I)V" } : Jvm.MethodName) jdk_38_method_24_code (4 : Nat) (Option.none : Option Jvm.ClassFile.FieldType), Jvm.Cond.code ({ cls := "java/util/ArrayList", name := "grow", desc := "()[Ljava/lang/Object;" } : Jvm.MethodName) jdk_38_method_7_code (1 : Nat) (Option.some (Jvm.ClassFile.FieldType.array (Jvm.ClassFile.FieldType.object "java/lang/Object"))), Jvm.Cond.code ({ cls := "java/util/ArrayList", name := "grow", desc := "(I)[Ljava/lang/Object;" } : Jvm.MethodName) jdk_38_method_6_code (4 : Nat) (Option.some (Jvm.ClassFile.FieldType.array (Jvm.ClassFile.FieldType.object "java/lang/Object"))), Jvm.Cond.code ({ cls := "com/example/bidwright/bidwright/allocation/Supply", name := "<init>", desc := "(ILjava/util/List;Ljava/util/List;)V" } : Jvm.MethodName) prog_52_method_1_code (4 : Nat) (Option.none : Option Jvm.ClassFile.FieldType), Jvm.Cond.code ({ cls := "com/example/bidwright/bidwright/allocation/Supply", name := "runningTotals", desc := "(Ljava/util/List;)[J" } : Jvm.MethodName) prog_52_method_4_code (3 : Nat) (Option.some (Jvm.ClassFile.FieldType.array Jvm.ClassFile.FieldType.long)), Jvm.Cond.code ({ cls := "java/util/ArrayList", name := "size", desc := "()I" } : Jvm.MethodName) jdk_38_method_8_code (1 : Nat) (Option.some Jvm.ClassFile.FieldType.int), Jvm.Cond.code ({ cls := "java/util/ArrayList", name := "get", desc := "(I)Ljava/lang/Object;" } : Jvm.MethodName) jdk_38_method_20_code (2 : Nat) (Option.some (Jvm.ClassFile.FieldType.object "java/lang/Object")), Jvm.Cond.code ({ cls := "java/util/Objects", name := "checkIndex", desc := "(II)I" } : Jvm.MethodName) jdk_31_method_17_code (2 : Nat) (Option.some Jvm.ClassFile.FieldType.int), Jvm.Cond.code ({ cls := "jdk/internal/util/Preconditions", name := "checkIndex", desc := "(IILjava/util/function/BiFunction;)I" } : Jvm.MethodName) jdk_41_method_11_code (3 : Nat) (Option.some Jvm.ClassFile.FieldType.int), Jvm.Cond.code ({ cls := "java/util/ArrayList", name := "elementData", desc := "(I)Ljava/lang/Object;" } : Jvm.MethodName) jdk_38_method_18_code (2 : Nat) (Option.some (Jvm.ClassFile.FieldType.object "java/lang/Object")), Jvm.Cond.code ({ cls := "com/example/bidwright/bidwright/market/Money", name := "toCents", desc := "()J" } : Jvm.MethodName) prog_111_method_4_code (1 : Nat) (Option.some Jvm.ClassFile.FieldType.long), Jvm.Cond.code ({ cls := "java/lang/Math", name := "addExact", desc := "(JJ)J" } : Jvm.MethodName) jdk_29_method_25_code (6 : Nat) (Option.some Jvm.ClassFile.FieldType.long), Jvm.Cond.code ({ cls := "com/example/bidwright/bidwright/allocation/Supply", name := "most", desc := "()J" } : Jvm.MethodName) prog_52_method_5_code (1 : Nat) (Option.some Jvm.ClassFile.FieldType.long)]
set_option maxRecDepth 65536 in
theorem codes_eq : words1.filter isCode = codes1 := rfl
theorem w_codes : ∀ c ∈ words1.filter isCode, c.before args0 about1 = true := by
  rw [codes_eq]
  intro c hc
  simp only [codes1, List.mem_cons, List.not_mem_nil, or_false] at hc
  rcases hc with rfl | rfl | rfl | rfl | rfl | rfl | rfl | rfl | rfl | rfl | rfl | rfl | rfl | rfl | rfl | rfl | rfl | rfl | rfl | rfl | rfl | rfl | rfl
  · exact w_c0
  · exact w_c1
  · exact w_c2
  · exact w_c3
  · exact w_c4
  · exact w_c5
  · exact w_c6
  · exact w_c7
  · exact w_c8
  · exact w_c9
  · exact w_c10
  · exact w_c11
  · exact w_c12
  · exact w_c13
  · exact w_c14
  · exact w_c15
  · exact w_c16
  · exact w_c17
  · exact w_c18
  · exact w_c19
  · exact w_c20
  · exact w_c21
  · exact w_c22
set_option maxRecDepth 65536 in
theorem w_t1 : (words1.take 24).all (fun c => isCode c || c.before args0 about1) = true := by decide +kernel
set_option maxRecDepth 65536 in
theorem w_t2 : ((words1.drop 24).take 24).all (fun c => isCode c || c.before args0 about1) = true := by decide +kernel
set_option maxRecDepth 65536 in
theorem w_t3 : (((words1.drop 24).drop 24).take 24).all (fun c => isCode c || c.before args0 about1) = true := by decide +kernel
set_option maxRecDepth 65536 in
theorem w_t4 : ((((words1.drop 24).drop 24).drop 24).take 24).all (fun c => isCode c || c.before args0 about1) = true := by decide +kernel
set_option maxRecDepth 65536 in
theorem w_t5 : (((((words1.drop 24).drop 24).drop 24).drop 24).take 24).all (fun c => isCode c || c.before args0 about1) = true := by decide +kernel
set_option maxRecDepth 65536 in
theorem w_t6 : (((((words1.drop 24).drop 24).drop 24).drop 24).drop 24).all (fun c => isCode c || c.before args0 about1) = true := by decide +kernel
theorem w_tables : (allAtoms (Jvm.Cond.code x code maxLocals ret :: tables_1)).before args0 about1 = true := by
  rw [allAtoms_all]
  show words1.all (fun c => c.before args0 about1) = true
  refine all_split ?_ w_codes
  rw [← List.take_append_drop 24 words1, List.all_append, w_t1, ← List.take_append_drop 24 (words1.drop 24), List.all_append, w_t2, ← List.take_append_drop 24 ((words1.drop 24).drop 24), List.all_append, w_t3, ← List.take_append_drop 24 (((words1.drop 24).drop 24).drop 24), List.all_append, w_t4, ← List.take_append_drop 24 ((((words1.drop 24).drop 24).drop 24).drop 24), List.all_append, w_t5, w_t6]
  rfl
set_option maxRecDepth 65536 in
theorem w_rest : rest_1_c.before args0 about1 = true := by decide +kernel
set_option maxRecDepth 65536 in
theorem w_case : (Jvm.Cond.and given_1 narrow_1).before args0 about1 = true := by decide +kernel
theorem w_applies : (headSpec (Jvm.Cond.code x code maxLocals ret :: tables_1) room_1).applies x e0.platform about1 = true :=
  (Spec.applies_iff w_frames).mpr ⟨w_running, w_runnable, w_alone, w_named, w_hears, w_ripe, w_room, w_tables⟩
theorem atStart : AtStart classFile x code maxLocals ret World_1 tables_1 room_1 Calls_1 rest_1 Pre_1 launch0 p0 e0 about1 theMethod args0 below0 :=
  ⟨lists_1, trivial, launch0.admits_env _ _ _, launch0.least_env, fairChoices_fair.cas, fairChoices_fair.clock, w_frames, w_args, w_heap, w_applies, trivial, w_rest, w_case⟩
end start1
theorem witness_1 : WitnessClaimed_1 := ⟨start1.p0, start1.e0, start1.about1, start1.theMethod, start1.args0, start1.below0, start1.atStart⟩
end Jvm.Pilot.@@N@@
