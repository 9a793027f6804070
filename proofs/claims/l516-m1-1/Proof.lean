import JvmDerived
import JvmDerived.Pilot.@@N@@Statement
import JvmDerived.Pilot.@@N@@Code
set_option linter.unusedVariables false
set_option linter.unusedSimpArgs false
@@BLOCK:NumsL.lean.txt@@
namespace Jvm.Pilot.@@N@@
open Jvm Jvm.ClassFile Sem Op Lib Jvm.Free Jvm.Stand Jvm.LawKit Jvm.RoadKit Bundle Jvm.Pilot.@@N@@.Jvm.D
section Own
variable {p : Program} {l : Launch} {e : Env} {R : Room} {s : State} {m : MethodId} {args : Array Value} {below : List Frame} {meth : Method} {c : Code} {T T' : State} {locs : List Loc} {cells slots : Nat} {Z : State} {h h' h0 : Heap} {n0 : Nat} {ws : List Addr} {a0 : Array Value}
/-- what is still to be shown: from this frame the run ends as G says -/
def own_G (p : Program) (e : Env) (below : List Frame) (G : Outcome → State → Prop) (T : State) (f : JFrame) : Prop :=
  ∃ s₂ o, Steps p.tables e below (T.setTop f) s₂ ∧ s₂.status = .running ∧ Ended s₂ below o ∧ G o s₂
theorem own_st {G : Outcome → State → Prop} {f f' : JFrame} (q : ∀ t, Steps p.tables e below (T'.setTop f') t → Steps p.tables e below (T.setTop f) t) (k : own_G p e below G T' f') : own_G p e below G T f := by
  obtain ⟨a, o, r1, r2⟩ := k
  exact ⟨a, o, q a r1, r2⟩
theorem own_cast {G : Outcome → State → Prop} {f f' : JFrame} (q : f = f') (k : own_G p e below G T f') : own_G p e below G T f := q ▸ k
def own_D (s : State) (Q : Option Value → Heap → List Loc → Prop) (C S : Nat) (o : Outcome) (U : State) : Prop := ∃ v L, o = .returned v ∧ Q v U.heap L ∧ FrameEnd s o U L C S
def own_Q (n0 : Nat) (h0 : Heap) (ws : List Addr) (P : Option Value → Heap → Prop) (v : Option Value) (h : Heap) (L : List Loc) : Prop := Fr n0 L ∧ Keep h0 h ws ∧ P v h
def own_M (l : Launch) (y : MethodName) (code : ByteArray) (maxL : Nat) (ret : Option FieldType) (wd : List Jvm.Cond) (rm : Room) (Z : State) (as : Array Value) (h0 : Heap) (Q : Option Value → Heap → List Loc → Prop) : Prop :=
  MetFree l y (head1 (Jvm.Cond.code y code maxL ret :: wd) rm) (fun a U => a = as ∧ Z.Warmed39 U.vm ∧ U.heap = h0) (fun _ _ _ _ _ => True) (fun _ U o U' => ∃ v L, o = .returned v ∧ Q v U'.heap L ∧ FrameEnd U o U' L rm.cells rm.slots)
/-- where the walk stands: nothing old but ws was written -/
def own_S (p : Program) (l : Launch) (e : Env) (R : Room) (s : State) (m : MethodId) (args : Array Value) (below : List Frame) (meth : Method) (c : Code) (n0 : Nat) (h0 : Heap) (ws : List Addr) (T : State) (h : Heap) (cells slots : Nat) : Prop :=
  (∃ locs, Stand p l e R s m args below meth c T locs cells slots ∧ Fr n0 locs) ∧ T.heap = h ∧ Keep h0 h ws
theorem own_S.her (X : own_S p l e R s m args below meth c n0 h0 ws T h cells slots) : At T m c below := by
  obtain ⟨⟨_, X, _⟩, _⟩ := X; exact X.here
theorem own_body {y : MethodName} {code : ByteArray} {maxL : Nat} {ret : Option FieldType} {wd : List Jvm.Cond} {rm : Room} {as : Array Value} {P : Option Value → Heap → Prop} (hy : plainFor y = true)
    (B : ∀ (p : Program) (e : Env) (s : State) (m : MethodId) (below : List Frame) (meth : Method) (c : Code) (T : State), own_S p l e rm s m as below meth c n0 h0 ws T h0 0 0 → p.tables.exec = Jvm.exec → c.code = code → c.maxLocals = maxL → s.vm.findClass y.cls = some m.cls → meth.name = y.name → meth.sig.returnType = ret → meth.locks = false → Z.Warmed39 s.vm →
      own_G p e below (own_D s (own_Q n0 h0 ws P) rm.cells rm.slots) T (entryFrame m as maxL)) :
    own_M l y code maxL ret wd rm Z as h0 (own_Q n0 h0 ws P) := by
  refine MetFree.of_bodySF hy hisR ?_
  intro p e s m args below meth c s₁ Bd hml0 hP hK
  obtain ⟨rfl, hZ, hh⟩ := hP
  exact B p e s m below meth c s₁ ⟨⟨[], Stand.of_body Bd, Fr.nil n0⟩, by rw [← hh, Bd.state]; rfl, Keep.refl _ _⟩ Bd.exec Bd.bytes hml0 (findClass_of_methodNamed Bd.named) (name_of_methodNamed Bd.named Bd.method).1 Bd.returns Bd.notSynchronized hZ
section Leave
variable {P : Option Value → Heap → Prop} {pc : Nat} {Ls : Array Slot} {rest : List Value} {C S : Nat}
theorem own_retN {t : FieldType} {z : Int32} (X : own_S p l e R s m args below meth c n0 h0 ws T h cells slots) (hx : p.tables.exec = Jvm.exec) (hret : meth.sig.returnType = some t) (hlk : meth.locks = false) (ht : t = .boolean ∨ t = .byte ∨ t = .char ∨ t = .short) (hd : decode c.code pc = .ok (.ireturn, 1)) (hc : cells ≤ C) (hs : slots ≤ S) (hP : P (some (.int (nar t z))) h) :
    own_G p e below (own_D s (own_Q n0 h0 ws P) C S) T (mkF m pc Ls (.int z :: rest)) := by
  obtain ⟨⟨locs, X, N⟩, rfl, K⟩ := X
  obtain ⟨fs, hr, hrun, hended, hW, hsame⟩ := X.leave (v := some (.int (nar t z))) (fun h => by rw [hret] at h; cases h) hlk
  exact ⟨_, _, retN X hx hret ht hd hr, hrun, hended, _, _, rfl, ⟨N, K, hP⟩, ⟨_, rfl⟩, hW, hsame.mono hc hs⟩
theorem own_retI {z : Int32} (X : own_S p l e R s m args below meth c n0 h0 ws T h cells slots) (hx : p.tables.exec = Jvm.exec) (hret : meth.sig.returnType = some .int) (hlk : meth.locks = false) (hd : decode c.code pc = .ok (.ireturn, 1)) (hc : cells ≤ C) (hs : slots ≤ S) (hP : P (some (.int z)) h) :
    own_G p e below (own_D s (own_Q n0 h0 ws P) C S) T (mkF m pc Ls (.int z :: rest)) := by
  obtain ⟨⟨locs, X, N⟩, rfl, K⟩ := X
  obtain ⟨fs, hr, hrun, hended, hW, hsame⟩ := X.leave (v := some (.int z)) (fun h => by rw [hret] at h; cases h) hlk
  exact ⟨_, _, retOut X hx hret rfl (Or.inl ⟨rfl, Or.inl rfl, _, rfl⟩) hd hr, hrun, hended, _, _, rfl, ⟨N, K, hP⟩, ⟨_, rfl⟩, hW, hsame.mono hc hs⟩
theorem own_retL {z : Int64} (X : own_S p l e R s m args below meth c n0 h0 ws T h cells slots) (hx : p.tables.exec = Jvm.exec) (hret : meth.sig.returnType = some .long) (hlk : meth.locks = false) (hd : decode c.code pc = .ok (.lreturn, 1)) (hc : cells ≤ C) (hs : slots ≤ S) (hP : P (some (.long z)) h) :
    own_G p e below (own_D s (own_Q n0 h0 ws P) C S) T (mkF m pc Ls (.long z :: rest)) := by
  obtain ⟨⟨locs, X, N⟩, rfl, K⟩ := X
  obtain ⟨fs, hr, hrun, hended, hW, hsame⟩ := X.leave (v := some (.long z)) (fun h => by rw [hret] at h; cases h) hlk
  exact ⟨_, _, retOut X hx hret rfl (Or.inr (Or.inl ⟨rfl, rfl, _, rfl⟩)) hd hr, hrun, hended, _, _, rfl, ⟨N, K, hP⟩, ⟨_, rfl⟩, hW, hsame.mono hc hs⟩
theorem own_retA {t : FieldType} {z : Addr} (X : own_S p l e R s m args below meth c n0 h0 ws T h cells slots) (hx : p.tables.exec = Jvm.exec) (hret : meth.sig.returnType = some t) (hlk : meth.locks = false) (ht : t.isReference = true) (hn : narrow t (.ref z) = .ref z) (hd : decode c.code pc = .ok (.areturn, 1)) (hc : cells ≤ C) (hs : slots ≤ S) (hP : P (some (.ref z)) h) :
    own_G p e below (own_D s (own_Q n0 h0 ws P) C S) T (mkF m pc Ls (.ref z :: rest)) := by
  obtain ⟨⟨locs, X, N⟩, rfl, K⟩ := X
  obtain ⟨fs, hr, hrun, hended, hW, hsame⟩ := X.leave (v := some (.ref z)) (fun h => by rw [hret] at h; cases h) hlk
  exact ⟨_, _, retOut X hx hret hn (Or.inr (Or.inr (Or.inr (Or.inr ⟨rfl, ht, rfl⟩)))) hd hr, hrun, hended, _, _, rfl, ⟨N, K, hP⟩, ⟨_, rfl⟩, hW, hsame.mono hc hs⟩
theorem own_ret0 (X : own_S p l e R s m args below meth c n0 h0 ws T h cells slots) (hx : p.tables.exec = Jvm.exec) (hret : meth.sig.returnType = none) (hlk : meth.locks = false) (hd : decode c.code pc = .ok (.return_, 1)) (hc : cells ≤ C) (hs : slots ≤ S) (hP : P none h) :
    own_G p e below (own_D s (own_Q n0 h0 ws P) C S) T (mkF m pc Ls []) := by
  obtain ⟨⟨locs, X, N⟩, rfl, K⟩ := X
  obtain ⟨fs, hr, hrun, hended, hW, hsame⟩ := X.leave (v := none) (fun _ => rfl) hlk
  exact ⟨_, _, X.returnOut hx hret hd hr, hrun, hended, _, _, rfl, ⟨N, K, hP⟩, ⟨_, rfl⟩, hW, hsame.mono hc hs⟩
end Leave
section Calls
variable {y : MethodName} {bytes : ByteArray} {maxL : Nat} {ret : Option FieldType} {rm : Room} {W : Nat} {own : String} {index : Nat} {P : Option Value → Heap → Prop} {wsc : List Addr} {G : Outcome → State → Prop} {pc : Nat} {Ls : Array Slot} {rest stk : List Value} {ps : List FieldType} {r : Option FieldType}
theorem own_callS (as : List Value) (X : own_S p l e R s m args below meth c n0 h0 ws T h cells slots) (hx : p.tables.exec = Jvm.exec) (hZ : Z.Warmed39 s.vm) (hown : s.vm.findClass own = some m.cls)
    (w1 : (Jvm.Cond.methodLink own index y).before a0 Z = true) (w2 : (Jvm.Cond.static y).before a0 Z = true) (w3 : (Jvm.Cond.initialized y.cls).before a0 Z = true) (w4 : (Jvm.Cond.code y bytes maxL ret).before a0 Z = true) (hy : y.cls ≠ "java/lang/invoke/MethodHandle" ∧ y.cls ≠ "java/lang/invoke/VarHandle")
    (M : own_M l y bytes maxL ret [] rm Z as.toArray h (own_Q n0 h wsc P)) (q : ∀ x ∈ wsc, x ∈ ws ∨ h0.size ≤ x)
    (hf : rm.frames + 1 ≤ R.frames) (hl : W + (maxL + 11) + rm.locals ≤ R.locals) (hc : cells + rm.cells ≤ R.cells) (hs : slots + rm.slots ≤ R.slots) (hsize : Ls.size = c.maxLocals)
    (hlen : parseMethodDescriptor y.desc = some ⟨ps, r⟩) (hlen' : as.length = ps.length) (hstk : stk = as.reverse ++ rest) (hW : (rest.map fun v => v.category).sum ≤ W) (hd : decode c.code pc = .ok (.invokestatic index, 3))
    (k : ∀ v T' h', own_S p l e R s m args below meth c n0 h0 ws T' h' (cells + rm.cells) (slots + rm.slots) → Keep h h' wsc → P v h' → own_G p e below G T' (mkF m (pc + 3) Ls (v.toList ++ rest))) :
    own_G p e below G T (mkF m pc Ls stk) := by
  obtain ⟨⟨locs, X, N⟩, e0, K⟩ := X
  obtain ⟨v, vm₁, ⟨T', L', k', n'⟩, -, X', ⟨Lc, hQ, l', y', z'⟩, st⟩ := Jvm.LawKit.callS X hx (y := y) hown (mvT hZ w1) (mvT hZ w2) (mvT hZ w3) (mvT hZ w4) hy (backOf (W := W) M hZ w4 w3 hf hl) (g := mkF m pc Ls stk) rfl hsize (argsL := as) (rest := rest) (lenOf hlen hlen') hstk (by show 2 * 0 + _ ≤ _; rw [Nat.mul_zero, Nat.zero_add]; exact hW) hd (fun _ _ => ⟨rfl, e0, hc, hs⟩)
  dsimp only [Pt.U, Pt.locs, Pt.cells, Pt.slots] at X' l' y' z' st hQ
  subst l' y' z'
  obtain ⟨N', K', hP⟩ := hQ
  exact own_st st (k v T' _ ⟨⟨_, X', N.app N'⟩, rfl, K.trans K' q⟩ K' hP)
theorem own_callC (as : List Value) {a : Addr} (X : own_S p l e R s m args below meth c n0 h0 ws T h cells slots) (hx : p.tables.exec = Jvm.exec) (hZ : Z.Warmed39 s.vm) (hown : s.vm.findClass own = some m.cls) (hy1 : y.name = "<init>")
    (w1 : (Jvm.Cond.methodLink own index y).before a0 Z = true) (w2 : (Jvm.Cond.instanceMethod y).before a0 Z = true) (w3 : (Jvm.Cond.initialized y.cls).before a0 Z = true) (w4 : (Jvm.Cond.code y bytes maxL none).before a0 Z = true) (hy : y.cls ≠ "java/lang/invoke/MethodHandle" ∧ y.cls ≠ "java/lang/invoke/VarHandle")
    (M : own_M l y bytes maxL none [] rm Z (Value.ref a :: as).toArray h (own_Q n0 h wsc P)) (q : ∀ x ∈ wsc, x ∈ ws ∨ h0.size ≤ x)
    (hf : rm.frames + 1 ≤ R.frames) (hl : W + (maxL + 11) + rm.locals ≤ R.locals) (hc : cells + rm.cells ≤ R.cells) (hs : slots + rm.slots ≤ R.slots) (hsize : Ls.size = c.maxLocals)
    (hlen : parseMethodDescriptor y.desc = some ⟨ps, r⟩) (hlen' : as.length = ps.length) (hstk : stk = as.reverse ++ .ref a :: rest) (hW : (rest.map fun v => v.category).sum ≤ W) (hd : decode c.code pc = .ok (.invokespecial index, 3))
    (k : ∀ v T' h', own_S p l e R s m args below meth c n0 h0 ws T' h' (cells + rm.cells) (slots + rm.slots) → Keep h h' wsc → P v h' → own_G p e below G T' (mkF m (pc + 3) Ls (v.toList ++ rest))) :
    own_G p e below G T (mkF m pc Ls stk) := by
  obtain ⟨⟨locs, X, N⟩, e0, K⟩ := X
  obtain ⟨v, vm₁, ⟨T', L', k', n'⟩, -, X', ⟨Lc, hQ, l', y', z'⟩, st⟩ := X.specialBack hx (y := y) hy1 hown (mvT hZ w1) (mvT hZ w2) (mvT hZ w4) hy (backOf (W := W) M hZ w4 w3 hf hl) (g := mkF m pc Ls stk) rfl hsize (Steps.refl _) (a := a) (argsL := as) (rest := rest) (lenOf hlen hlen') hstk (by show 2 * 0 + _ ≤ _; rw [Nat.mul_zero, Nat.zero_add]; exact hW) hd (fun _ _ => ⟨rfl, e0, hc, hs⟩)
  dsimp only [Pt.U, Pt.locs, Pt.cells, Pt.slots] at X' l' y' z' st hQ
  subst l' y' z'
  obtain ⟨N', K', hP⟩ := hQ
  exact own_st (fun t => st.trans) (k v T' _ ⟨⟨_, X', N.app N'⟩, rfl, K.trans K' q⟩ K' hP)
theorem own_callV (as : List Value) {a : Addr} (X : own_S p l e R s m args below meth c n0 h0 ws T h cells slots) (hx : p.tables.exec = Jvm.exec) (hZ : Z.Warmed39 s.vm) (hown : s.vm.findClass own = some m.cls)
    (w1 : (Jvm.Cond.methodLink own index y).before a0 Z = true) (w2 : (Jvm.Cond.declares y).before a0 Z = true) (w3 : (Jvm.Cond.selects y.cls y y).before a0 Z = true) (w5 : (Jvm.Cond.instanceMethod y).before a0 Z = true) (w6 : (Jvm.Cond.initialized y.cls).before a0 Z = true) (w4 : (Jvm.Cond.code y bytes maxL ret).before a0 Z = true) (hy : y.cls ≠ "java/lang/invoke/MethodHandle" ∧ y.cls ≠ "java/lang/invoke/VarHandle")
    (E : Exa Z h a y.cls)
    (M : own_M l y bytes maxL ret [] rm Z (Value.ref a :: as).toArray h (own_Q n0 h wsc P)) (q : ∀ x ∈ wsc, x ∈ ws ∨ h0.size ≤ x)
    (hf : rm.frames + 1 ≤ R.frames) (hl : W + (maxL + 11) + rm.locals ≤ R.locals) (hc : cells + rm.cells ≤ R.cells) (hs : slots + rm.slots ≤ R.slots) (hsize : Ls.size = c.maxLocals)
    (hlen : parseMethodDescriptor y.desc = some ⟨ps, r⟩) (hlen' : as.length = ps.length) (hstk : stk = as.reverse ++ .ref a :: rest) (hW : (rest.map fun v => v.category).sum ≤ W) (hd : decode c.code pc = .ok (.invokevirtual index, 3))
    (k : ∀ v T' h', own_S p l e R s m args below meth c n0 h0 ws T' h' (cells + rm.cells) (slots + rm.slots) → Keep h h' wsc → P v h' → own_G p e below G T' (mkF m (pc + 3) Ls (v.toList ++ rest))) :
    own_G p e below G T (mkF m pc Ls stk) := by
  obtain ⟨⟨locs, X, N⟩, e0, K⟩ := X
  obtain ⟨cq, kq, qa, qb, qc⟩ := isOf hZ e0 E
  obtain ⟨v, vm₁, ⟨T', L', k', n'⟩, -, X', ⟨Lc, hQ, l', y', z'⟩, st⟩ := X.virtualBack hx (y := y) (z := y) hown (mvT hZ w1) (mvT hZ w2) (notFace_of_selects (args := #[]) (mvT hZ w3)) (mvT hZ w3) (mvT hZ w5) hy (backOf (W := W) M hZ w4 w6 hf hl) qa qc (g := mkF m pc Ls stk) rfl hsize (Steps.refl _) (argsL := as) (rest := rest) (lenOf hlen hlen') hstk (by show 2 * 0 + _ ≤ _; rw [Nat.mul_zero, Nat.zero_add]; exact hW) hd (fun _ _ => ⟨rfl, e0, hc, hs⟩)
  dsimp only [Pt.U, Pt.locs, Pt.cells, Pt.slots] at X' l' y' z' st hQ
  subst l' y' z'
  obtain ⟨N', K', hP⟩ := hQ
  exact own_st (fun t => st.trans) (k v T' _ ⟨⟨_, X', N.app N'⟩, rfl, K.trans K' q⟩ K' hP)
theorem own_initO {a : Addr} (X : own_S p l e R s m args below meth c n0 h0 ws T h cells slots) (hx : p.tables.exec = Jvm.exec) (hZ : Z.Warmed39 s.vm) (hown : s.vm.findClass own = some m.cls)
    (w1 : (Jvm.Cond.methodLink own index Lib.objectInit).before a0 Z = true) (w2 : (Jvm.Cond.instanceMethod Lib.objectInit).before a0 Z = true) (w3 : (Jvm.Cond.code Lib.objectInit ⟨#[0xb1]⟩ 1 none).before a0 Z = true)
    (hf : 1 ≤ R.frames) (hl : W + 12 ≤ R.locals) (hsize : Ls.size = c.maxLocals) (hW : (rest.map fun v => v.category).sum ≤ W) (hd : decode c.code pc = .ok (.invokespecial index, 3))
    (k : ∀ T', own_S p l e R s m args below meth c n0 h0 ws T' h cells slots → own_G p e below G T' (mkF m (pc + 3) Ls rest)) :
    own_G p e below G T (mkF m pc Ls (.ref a :: rest)) := by
  obtain ⟨⟨locs, X, N⟩, e0, K⟩ := X
  obtain ⟨T1, X1, e1, st⟩ := initO X hx hZ hown w1 w2 w3 e0 (g := mkF m pc Ls (.ref a :: rest)) rfl hsize rfl hd hf (W := W) (by show 2 * 0 + _ ≤ _; rw [Nat.mul_zero, Nat.zero_add]; exact hW) hl
  exact own_st st (k T1 ⟨⟨_, X1, N⟩, e1, K⟩)
/-- a pure callee: it returns this and leaves the heap -/
def own_P (val : Value) (h0 : Heap) (v : Option Value) (h : Heap) : Prop := v = some val ∧ h = h0
theorem own_callSP (as : List Value) {val : Value} (X : own_S p l e R s m args below meth c n0 h0 ws T h cells slots) (hx : p.tables.exec = Jvm.exec) (hZ : Z.Warmed39 s.vm) (hown : s.vm.findClass own = some m.cls)
    (w1 : (Jvm.Cond.methodLink own index y).before a0 Z = true) (w2 : (Jvm.Cond.static y).before a0 Z = true) (w3 : (Jvm.Cond.initialized y.cls).before a0 Z = true) (w4 : (Jvm.Cond.code y bytes maxL ret).before a0 Z = true) (hy : y.cls ≠ "java/lang/invoke/MethodHandle" ∧ y.cls ≠ "java/lang/invoke/VarHandle")
    (M : own_M l y bytes maxL ret [] rm Z as.toArray h (own_Q n0 h [] (own_P val h)))
    (hf : rm.frames + 1 ≤ R.frames) (hl : W + (maxL + 11) + rm.locals ≤ R.locals) (hc : cells + rm.cells ≤ R.cells) (hs : slots + rm.slots ≤ R.slots) (hsize : Ls.size = c.maxLocals)
    (hlen : parseMethodDescriptor y.desc = some ⟨ps, r⟩) (hlen' : as.length = ps.length) (hstk : stk = as.reverse ++ rest) (hW : (rest.map fun v => v.category).sum ≤ W) (hd : decode c.code pc = .ok (.invokestatic index, 3))
    (k : ∀ T', own_S p l e R s m args below meth c n0 h0 ws T' h (cells + rm.cells) (slots + rm.slots) → own_G p e below G T' (mkF m (pc + 3) Ls (val :: rest))) :
    own_G p e below G T (mkF m pc Ls stk) :=
  own_callS as X hx hZ hown w1 w2 w3 w4 hy M (fun _ q => nomatch q) hf hl hc hs hsize hlen hlen' hstk hW hd fun v T' h' X' _ hv => by
    obtain ⟨hv, hh⟩ := hv
    rw [hv]; rw [hh] at X'
    exact k T' X'
/-- a callee that returns nothing and leaves the heap -/
def own_N (h0 : Heap) (v : Option Value) (h : Heap) : Prop := v = none ∧ h = h0
theorem own_callCN (as : List Value) {a : Addr} (X : own_S p l e R s m args below meth c n0 h0 ws T h cells slots) (hx : p.tables.exec = Jvm.exec) (hZ : Z.Warmed39 s.vm) (hown : s.vm.findClass own = some m.cls) (hy1 : y.name = "<init>")
    (w1 : (Jvm.Cond.methodLink own index y).before a0 Z = true) (w2 : (Jvm.Cond.instanceMethod y).before a0 Z = true) (w3 : (Jvm.Cond.initialized y.cls).before a0 Z = true) (w4 : (Jvm.Cond.code y bytes maxL none).before a0 Z = true) (hy : y.cls ≠ "java/lang/invoke/MethodHandle" ∧ y.cls ≠ "java/lang/invoke/VarHandle")
    (M : own_M l y bytes maxL none [] rm Z (Value.ref a :: as).toArray h (own_Q n0 h [] (own_N h)))
    (hf : rm.frames + 1 ≤ R.frames) (hl : W + (maxL + 11) + rm.locals ≤ R.locals) (hc : cells + rm.cells ≤ R.cells) (hs : slots + rm.slots ≤ R.slots) (hsize : Ls.size = c.maxLocals)
    (hlen : parseMethodDescriptor y.desc = some ⟨ps, r⟩) (hlen' : as.length = ps.length) (hstk : stk = as.reverse ++ .ref a :: rest) (hW : (rest.map fun v => v.category).sum ≤ W) (hd : decode c.code pc = .ok (.invokespecial index, 3))
    (k : ∀ T', own_S p l e R s m args below meth c n0 h0 ws T' h (cells + rm.cells) (slots + rm.slots) → own_G p e below G T' (mkF m (pc + 3) Ls rest)) :
    own_G p e below G T (mkF m pc Ls stk) :=
  own_callC as X hx hZ hown hy1 w1 w2 w3 w4 hy M (fun _ q => nomatch q) hf hl hc hs hsize hlen hlen' hstk hW hd fun v T' h' X' _ hv => by
    obtain ⟨hv, hh⟩ := hv
    rw [hv]; rw [hh] at X'
    exact k T' X'
theorem own_callVP (as : List Value) {val : Value} {a : Addr} (X : own_S p l e R s m args below meth c n0 h0 ws T h cells slots) (hx : p.tables.exec = Jvm.exec) (hZ : Z.Warmed39 s.vm) (hown : s.vm.findClass own = some m.cls)
    (w1 : (Jvm.Cond.methodLink own index y).before a0 Z = true) (w2 : (Jvm.Cond.declares y).before a0 Z = true) (w3 : (Jvm.Cond.selects y.cls y y).before a0 Z = true) (w5 : (Jvm.Cond.instanceMethod y).before a0 Z = true) (w6 : (Jvm.Cond.initialized y.cls).before a0 Z = true) (w4 : (Jvm.Cond.code y bytes maxL ret).before a0 Z = true) (hy : y.cls ≠ "java/lang/invoke/MethodHandle" ∧ y.cls ≠ "java/lang/invoke/VarHandle")
    (E : Exa Z h a y.cls)
    (M : own_M l y bytes maxL ret [] rm Z (Value.ref a :: as).toArray h (own_Q n0 h [] (own_P val h)))
    (hf : rm.frames + 1 ≤ R.frames) (hl : W + (maxL + 11) + rm.locals ≤ R.locals) (hc : cells + rm.cells ≤ R.cells) (hs : slots + rm.slots ≤ R.slots) (hsize : Ls.size = c.maxLocals)
    (hlen : parseMethodDescriptor y.desc = some ⟨ps, r⟩) (hlen' : as.length = ps.length) (hstk : stk = as.reverse ++ .ref a :: rest) (hW : (rest.map fun v => v.category).sum ≤ W) (hd : decode c.code pc = .ok (.invokevirtual index, 3))
    (k : ∀ T', own_S p l e R s m args below meth c n0 h0 ws T' h (cells + rm.cells) (slots + rm.slots) → own_G p e below G T' (mkF m (pc + 3) Ls (val :: rest))) :
    own_G p e below G T (mkF m pc Ls stk) :=
  own_callV as X hx hZ hown w1 w2 w3 w5 w6 w4 hy E M (fun _ q => nomatch q) hf hl hc hs hsize hlen hlen' hstk hW hd fun v T' h' X' _ hv => by
    obtain ⟨hv, hh⟩ := hv
    rw [hv]; rw [hh] at X'
    exact k T' X'
theorem own_irem {x z : Int32} (X : own_S p l e R s m args below meth c n0 h0 ws T h cells slots) (hx : p.tables.exec = Jvm.exec) (hd : decode c.code pc = .ok (.irem, 1)) (hz : z ≠ 0)
    (k : own_G p e below G T (mkF m (pc + 1) Ls (.int (x % z) :: rest))) : own_G p e below G T (mkF m pc Ls (.int z :: .int x :: rest)) :=
  own_st (fun t k => XS.irem X.her hx rfl hd rfl hz (by rw [irem_eq_mod]; exact k)) k
theorem own_lrem {x z : Int64} (X : own_S p l e R s m args below meth c n0 h0 ws T h cells slots) (hx : p.tables.exec = Jvm.exec) (hd : decode c.code pc = .ok (.lrem, 1)) (hz : z ≠ 0)
    (k : own_G p e below G T (mkF m (pc + 1) Ls (.long (x % z) :: rest))) : own_G p e below G T (mkF m pc Ls (.long z :: .long x :: rest)) :=
  own_st (fun t k => XS.lrem X.her hx rfl hd rfl hz (by rw [lrem_mod]; exact k)) k
theorem own_b2 (x : Int32) : x.toInt8.toInt32.toInt8.toInt32 = x.toInt8.toInt32 := by simp
end Calls
section Heap
variable {own : String} {index : Nat} {G : Outcome → State → Prop} {pc : Nat} {Ls : Array Slot} {rest : List Value}
theorem own_ldcI {v : Int32} (X : own_S p l e R s m args below meth c n0 h0 ws T h cells slots) (hx : p.tables.exec = Jvm.exec) (hZ : Z.Warmed39 s.vm) (hown : s.vm.findClass own = some m.cls) (w : (Jvm.Cond.constant own index v).before a0 Z = true) (hd : decode c.code pc = .ok (.ldc index, 2))
    (k : own_G p e below G T (mkF m (pc + 2) Ls (.int v :: rest))) : own_G p e below G T (mkF m pc Ls rest) := by
  obtain ⟨⟨locs, X, N⟩, e0, K⟩ := X
  exact own_st (X.ldcInt hx hown (mvT hZ w) (g := mkF m pc Ls rest) rfl hd) k
theorem own_ldcL {v : Int64} (X : own_S p l e R s m args below meth c n0 h0 ws T h cells slots) (hx : p.tables.exec = Jvm.exec) (hZ : Z.Warmed39 s.vm) (hown : s.vm.findClass own = some m.cls) (w : (Jvm.Cond.constantLong own index v).before a0 Z = true) (hd : decode c.code pc = .ok (.ldc2_w index, 3))
    (k : own_G p e below G T (mkF m (pc + 3) Ls (.long v :: rest))) : own_G p e below G T (mkF m pc Ls rest) := by
  obtain ⟨⟨locs, X, N⟩, e0, K⟩ := X
  exact own_st (X.ldc2Long hx hown (mvT hZ w) (g := mkF m pc Ls rest) rfl hd) k
theorem own_getF {a : Addr} {C n d : String} {v : Value} (X : own_S p l e R s m args below meth c n0 h0 ws T h cells slots) (hx : p.tables.exec = Jvm.exec) (hZ : Z.Warmed39 s.vm) (hown : s.vm.findClass own = some m.cls) (w : (Jvm.Cond.fieldLink own index C n d).before a0 Z = true) (F : Fld Z h a C n d v) (hd : decode c.code pc = .ok (.getfield index, 3))
    (k : ∀ T', own_S p l e R s m args below meth c n0 h0 ws T' h cells slots → own_G p e below G T' (mkF m (pc + 3) Ls (v :: rest))) : own_G p e below G T (mkF m pc Ls (.ref a :: rest)) := by
  obtain ⟨⟨locs, X, N⟩, e0, K⟩ := X
  obtain ⟨T1, X1, e1, st⟩ := getF X hx hZ hown (host := "") (Or.inl w) Via.refl e0 F (g := mkF m pc Ls (.ref a :: rest)) rfl rfl hd
  exact own_st st (k T1 ⟨⟨_, X1, N⟩, e1, K⟩)
theorem own_getS {C n d : String} {v : Value} (X : own_S p l e R s m args below meth c n0 h0 ws T h cells slots) (hx : p.tables.exec = Jvm.exec) (hZ : Z.Warmed39 s.vm) (hown : s.vm.findClass own = some m.cls) (w : (Jvm.Cond.fieldLink own index C n d).before a0 Z = true) (F : Sta Z h C n d v) (hd : decode c.code pc = .ok (.getstatic index, 3))
    (k : ∀ T', own_S p l e R s m args below meth c n0 h0 ws T' h cells slots → own_G p e below G T' (mkF m (pc + 3) Ls (v :: rest))) : own_G p e below G T (mkF m pc Ls rest) := by
  obtain ⟨⟨locs, X, N⟩, e0, K⟩ := X
  obtain ⟨T1, X1, e1, st⟩ := getS2 X hx hZ hown (host := "") (Or.inl w) Via.refl e0 F (g := mkF m pc Ls rest) rfl hd
  exact own_st st (k T1 ⟨⟨_, X1, N⟩, e1, K⟩)
theorem own_putF {a : Addr} {C n d : String} {v old : Value} {kk : Nat} {ty : FieldType} (X : own_S p l e R s m args below meth c n0 h0 ws T h cells slots) (hx : p.tables.exec = Jvm.exec) (hZ : Z.Warmed39 s.vm) (hown : s.vm.findClass own = some m.cls) (w : (Jvm.Cond.fieldLink own index C n d).before a0 Z = true) (F : Fld Z h a C n d old) (E : Exa Z h a C)
    (L : (Jvm.Cond.lays C C n d).before a0 Z = true ∨ ((Jvm.Cond.laysFinal C C n d).before a0 Z = true ∧ own = C ∧ meth.name = "<init>")) (wi : (Jvm.Cond.instantiable C kk).before a0 Z = true) (hty : parseFieldDescriptor d = some ty) (hn : narrow ty v = v) (hf : fits ty v = true) (hd : decode c.code pc = .ok (.putfield index, 3)) (ga : n0 ≤ a) (qa : a ∈ ws ∨ h0.size ≤ a)
    (k : ∀ T' h', own_S p l e R s m args below meth c n0 h0 ws T' h' cells slots → Wr h h' a (Jvm.RoadKit.slotOf Z C n d) v → Fld Z h' a C n d v → Exa Z h' a C → own_G p e below G T' (mkF m (pc + 3) Ls rest)) : own_G p e below G T (mkF m pc Ls (v :: .ref a :: rest)) := by
  obtain ⟨⟨locs, X, N⟩, e0, K⟩ := X
  obtain ⟨T1, h1, X1, e1, W1, st⟩ := putF X hx hZ hown (host := "") (Or.inl w) Via.refl e0 F E L wi hty hn hf (g := mkF m pc Ls (v :: .ref a :: rest)) rfl rfl hd
  exact own_st st (k T1 h1 ⟨⟨_, X1, Fr.snoc X1 N ga⟩, e1, K.wr W1 qa⟩ W1 (F.same W1) (E.wr W1))
theorem own_newO {C : String} {kk : Nat} (X : own_S p l e R s m args below meth c n0 h0 ws T h cells slots) (hx : p.tables.exec = Jvm.exec) (hZ : Z.Warmed39 s.vm) (hown : s.vm.findClass own = some m.cls) (w : (Jvm.Cond.classLink own index C).before a0 Z = true) (wi : (Jvm.Cond.instantiable C kk).before a0 Z = true) (wz : (Jvm.Cond.initialized C).before a0 Z = true) (hd : decode c.code pc = .ok (.new index, 3)) (hc : cells + 1 ≤ R.cells) (hl : slots + kk ≤ R.slots)
    (k : ∀ T' h' (b : Addr), b = h.size → h0.size ≤ b → own_S p l e R s m args below meth c n0 h0 ws T' h' (cells + 1) (slots + kk) → Ext h h' → Exa Z h' b C → (∀ {O nm d : String} {ty : FieldType}, Laid Z a0 C O nm d → parseFieldDescriptor d = some ty → Fld Z h' b O nm d (defaultValue ty)) → own_G p e below G T' (mkF m (pc + 3) Ls (.ref b :: rest))) : own_G p e below G T (mkF m pc Ls rest) := by
  obtain ⟨⟨locs, X, N⟩, e0, K⟩ := X
  obtain ⟨T1, h1, X1, e1, E1, A1, D1, -, st⟩ := newO X hx hZ hown w wi wz e0 (g := mkF m pc Ls rest) rfl hd hc hl
  exact own_st st (k T1 h1 _ rfl K.1 ⟨⟨_, X1, N⟩, e1, K.ext E1⟩ E1 A1 D1)
/-- a byte array with these elements -/
def own_B (Z : State) (h : Heap) (a : Addr) (L : List Int32) : Prop := ∃ c : Cell, Arr Z h a c .byte ∧ c.slots = (L.map Value.int).toArray
theorem own_B.lt {a : Addr} {L : List Int32} (B : own_B Z h a L) : a < h.size := by obtain ⟨c, A, _⟩ := B; exact A.lt
theorem own_B.ext {a : Addr} {L : List Int32} (B : own_B Z h a L) (E : Ext h h') : own_B Z h' a L := by obtain ⟨c, A, q⟩ := B; exact ⟨c, A.ext E, q⟩
theorem own_B.other {a b : Addr} {L : List Int32} {sl : Nat} {v : Value} (B : own_B Z h b L) (W : Wr h h' a sl v) (q : b ≠ a) : own_B Z h' b L := by obtain ⟨c, A, r⟩ := B; exact ⟨c, A.other W q, r⟩
theorem own_B.keep {a : Addr} {L : List Int32} (B : own_B Z h a L) (K : Keep h h' ws) (q : a ∉ ws) : own_B Z h' a L := by obtain ⟨c, A, r⟩ := B; exact ⟨c, ⟨K.2.1 a c A.1 q, A.2⟩, r⟩
theorem own_bload {a : Addr} {L : List Int32} {j v : Int32} (X : own_S p l e R s m args below meth c n0 h0 ws T h cells slots) (hx : p.tables.exec = Jvm.exec) (hZ : Z.Warmed39 s.vm) (B : own_B Z h a L) (hj : ¬ j < 0) (hv : L[j.toNatClampNeg]? = some v) (hd : decode c.code pc = .ok (.baload, 1))
    (k : own_G p e below G T (mkF m (pc + 1) Ls (.int v :: rest))) : own_G p e below G T (mkF m pc Ls (.int j :: .ref a :: rest)) := by
  obtain ⟨⟨locs, X, N⟩, e0, K⟩ := X
  obtain ⟨cl, A, q⟩ := B
  have h1 : cl.slots[j.toNatClampNeg]? = some (.int v) := by rw [q]; simp [hv]
  have h2 : ¬ (j < 0 ∨ cl.slots.size ≤ j.toNatClampNeg) := fun z => z.elim hj fun z => by
    have := (Array.getElem?_eq_some_iff.mp h1).1
    omega
  exact own_st (X.baloadBytes hx (j := j) (v := .int v) (by rw [e0]; exact A.1) (State.isArrayOf_alike hZ.alike A.2.1) A.2.2 h2 h1 (g := mkF m pc Ls (.int j :: .ref a :: rest)) rfl rfl hd) k
theorem own_bstore {a : Addr} {L : List Int32} {j x : Int32} (X : own_S p l e R s m args below meth c n0 h0 ws T h cells slots) (hx : p.tables.exec = Jvm.exec) (hZ : Z.Warmed39 s.vm) (B : own_B Z h a L) (hj : ¬ j < 0) (hv : j.toNatClampNeg < L.length) (hd : decode c.code pc = .ok (.bastore, 1)) (ga : n0 ≤ a) (qa : a ∈ ws ∨ h0.size ≤ a)
    (k : ∀ T' h', own_S p l e R s m args below meth c n0 h0 ws T' h' cells slots → Keep h h' [a] → Wr h h' a j.toNatClampNeg (.int (nar .byte x)) → own_B Z h' a (L.set j.toNatClampNeg x.toInt8.toInt32) → own_G p e below G T' (mkF m (pc + 1) Ls rest)) : own_G p e below G T (mkF m pc Ls (.int x :: .int j :: .ref a :: rest)) := by
  obtain ⟨⟨locs, X, N⟩, e0, K⟩ := X
  obtain ⟨cl, A, q⟩ := B
  have h2 : ¬ (j < 0 ∨ cl.slots.size ≤ j.toNatClampNeg) := fun z => z.elim hj fun z => by
    rw [q] at z
    simp at z
    omega
  obtain ⟨T1, h1, X1, e1, W1, st⟩ := stB X hx hZ e0 A (j := j) (x := x) h2 (g := mkF m pc Ls (.int x :: .int j :: .ref a :: rest)) rfl rfl hd
  refine own_st st (k T1 h1 ⟨⟨_, X1, Fr.snoc X1 N ga⟩, e1, K.wr W1 qa⟩ (Keep.of_wr W1) W1 ⟨_, A.same W1, ?_⟩)
  show (cl.slots.setIfInBounds j.toNatClampNeg _) = _
  rw [q]
  simp [nar]
theorem own_newB {n : Int32} {kk : Nat} (X : own_S p l e R s m args below meth c n0 h0 ws T h cells slots) (hx : p.tables.exec = Jvm.exec) (hZ : Z.Warmed39 s.vm) (w : (Jvm.Cond.arrayClass .byte).before a0 Z = true) (hn : ¬ n < 0) (hk : n.toNatClampNeg = kk) (hb : kk * 8 ≤ 536870912) (hc : cells + 1 ≤ R.cells) (hl : slots + kk ≤ R.slots) (hd : decode c.code pc = .ok (.newarray .byte, 2))
    (k : ∀ T' h' (b : Addr), b = h.size → h0.size ≤ b → own_S p l e R s m args below meth c n0 h0 ws T' h' (cells + 1) (slots + kk) → Ext h h' → own_B Z h' b (List.replicate kk 0) → own_G p e below G T' (mkF m (pc + 2) Ls (.ref b :: rest))) : own_G p e below G T (mkF m pc Ls (.int n :: rest)) := by
  obtain ⟨⟨locs, X, N⟩, e0, K⟩ := X
  obtain ⟨T1, h1, cA, X1, e1, E1, A1, st⟩ := newP X hx hZ (aty := .byte) w e0 (g := mkF m pc Ls (.int n :: rest)) rfl hd rfl hn (cap := kk) (Nat.le_of_eq hk) hb hc hl
  refine own_st st (k T1 h1 _ rfl K.1 ⟨⟨_, X1, N⟩, e1, K.ext E1⟩ E1 ⟨_, A1, ?_⟩)
  show Array.replicate n.toNatClampNeg (defaultValue .byte) = _
  rw [hk]
  simp [defaultValue]
end Heap
end Own
theorem own_w0 {Z : State} {a0 : Array Value} (hw : ∀ d ∈ tables_1, d.before a0 Z = true) : (Jvm.Cond.arrayClass Jvm.ClassFile.FieldType.byte).before a0 Z = true := hw _ (List.mem_of_getElem? (i := 0) rfl)
theorem own_w1 {Z : State} {a0 : Array Value} (hw : ∀ d ∈ tables_1, d.before a0 Z = true) : (Jvm.Cond.methodLink "com/example/luoshu/luoshu/HexEncodePinLaw" (7 : Nat) ({ cls := "com/example/luoshu/luoshu/Hex", name := "encode", desc := "([BII[B)V" } : Jvm.MethodName)).before a0 Z = true := hw _ (List.mem_of_getElem? (i := 1) rfl)
theorem own_w2 {Z : State} {a0 : Array Value} (hw : ∀ d ∈ tables_1, d.before a0 Z = true) : (Jvm.Cond.static ({ cls := "com/example/luoshu/luoshu/Hex", name := "encode", desc := "([BII[B)V" } : Jvm.MethodName)).before a0 Z = true := hw _ (List.mem_of_getElem? (i := 2) rfl)
theorem own_w3 {Z : State} {a0 : Array Value} (hw : ∀ d ∈ tables_1, d.before a0 Z = true) : (Jvm.Cond.initialized "com/example/luoshu/luoshu/Hex").before a0 Z = true := hw _ (List.mem_of_getElem? (i := 3) rfl)
theorem own_w4 {Z : State} {a0 : Array Value} (hw : ∀ d ∈ tables_1, d.before a0 Z = true) : (Jvm.Cond.code ({ cls := "com/example/luoshu/luoshu/Hex", name := "encode", desc := "([BII[B)V" } : Jvm.MethodName) prog_3_method_3_code (5 : Nat) (Option.none : Option Jvm.ClassFile.FieldType)).before a0 Z = true := hw _ (List.mem_of_getElem? (i := 4) rfl)
theorem own_w5 {Z : State} {a0 : Array Value} (hw : ∀ d ∈ tables_1, d.before a0 Z = true) : (Jvm.Cond.methodLink "com/example/luoshu/luoshu/HexEncodePinLaw" (13 : Nat) ({ cls := "com/example/luoshu/luoshu/HexEncodePinLaw", name := "pair", desc := "([BII[BBI)Z" } : Jvm.MethodName)).before a0 Z = true := hw _ (List.mem_of_getElem? (i := 5) rfl)
theorem own_w6 {Z : State} {a0 : Array Value} (hw : ∀ d ∈ tables_1, d.before a0 Z = true) : (Jvm.Cond.static ({ cls := "com/example/luoshu/luoshu/HexEncodePinLaw", name := "pair", desc := "([BII[BBI)Z" } : Jvm.MethodName)).before a0 Z = true := hw _ (List.mem_of_getElem? (i := 6) rfl)
theorem own_w7 {Z : State} {a0 : Array Value} (hw : ∀ d ∈ tables_1, d.before a0 Z = true) : (Jvm.Cond.initialized "com/example/luoshu/luoshu/HexEncodePinLaw").before a0 Z = true := hw _ (List.mem_of_getElem? (i := 7) rfl)
theorem own_w8 {Z : State} {a0 : Array Value} (hw : ∀ d ∈ tables_1, d.before a0 Z = true) : (Jvm.Cond.code ({ cls := "com/example/luoshu/luoshu/HexEncodePinLaw", name := "pair", desc := "([BII[BBI)Z" } : Jvm.MethodName) method_3_code (7 : Nat) (Option.some Jvm.ClassFile.FieldType.boolean)).before a0 Z = true := hw _ (List.mem_of_getElem? (i := 8) rfl)
theorem own_w9 {Z : State} {a0 : Array Value} (hw : ∀ d ∈ tables_1, d.before a0 Z = true) : (Jvm.Cond.fieldLink "com/example/luoshu/luoshu/Hex" (24 : Nat) "com/example/luoshu/luoshu/Hex" "DIGITS" "[B").before a0 Z = true := hw _ (List.mem_of_getElem? (i := 9) rfl)
theorem own_w10 {Z : State} {a0 : Array Value} (hw : ∀ d ∈ tables_1, d.before a0 Z = true) : (Jvm.Cond.laysStatic "com/example/luoshu/luoshu/Hex" "DIGITS" "[B").before a0 Z = true := hw _ (List.mem_of_getElem? (i := 10) rfl)
theorem own_w11 {Z : State} {a0 : Array Value} (hw : ∀ d ∈ tables_1, d.before a0 Z = true) : (Jvm.Cond.methodLink "com/example/luoshu/luoshu/HexEncodePinLaw" (19 : Nat) ({ cls := "com/example/luoshu/luoshu/HexEncodePinLaw", name := "digit", desc := "(I)B" } : Jvm.MethodName)).before a0 Z = true := hw _ (List.mem_of_getElem? (i := 11) rfl)
theorem own_w12 {Z : State} {a0 : Array Value} (hw : ∀ d ∈ tables_1, d.before a0 Z = true) : (Jvm.Cond.static ({ cls := "com/example/luoshu/luoshu/HexEncodePinLaw", name := "digit", desc := "(I)B" } : Jvm.MethodName)).before a0 Z = true := hw _ (List.mem_of_getElem? (i := 12) rfl)
theorem own_w13 {Z : State} {a0 : Array Value} (hw : ∀ d ∈ tables_1, d.before a0 Z = true) : (Jvm.Cond.code ({ cls := "com/example/luoshu/luoshu/HexEncodePinLaw", name := "digit", desc := "(I)B" } : Jvm.MethodName) method_4_code (1 : Nat) (Option.some Jvm.ClassFile.FieldType.byte)).before a0 Z = true := hw _ (List.mem_of_getElem? (i := 13) rfl)
theorem own_pd0 : parseMethodDescriptor "(I)B" = some ⟨[.int], some .byte⟩ := by decide +kernel
theorem own_pn0 : plainName "com/example/luoshu/luoshu/HexEncodePinLaw" = true := by first | (simp [plainName, overriddenIn]; done) | decide +kernel
theorem own_pd1 : parseMethodDescriptor "([BII[B)V" = some ⟨[(.array .byte), .int, .int, (.array .byte)], none⟩ := by decide +kernel
theorem own_pn1 : plainName "com/example/luoshu/luoshu/Hex" = true := by first | (simp [plainName, overriddenIn]; done) | decide +kernel
theorem own_pd2 : parseMethodDescriptor "([BII[BBI)Z" = some ⟨[(.array .byte), .int, .int, (.array .byte), .byte, .int], some .boolean⟩ := by decide +kernel
theorem own_pd3 : parseMethodDescriptor "(III)Z" = some ⟨[.int, .int, .int], some .boolean⟩ := by decide +kernel
theorem own_nat (x : Int32) (hx : 0 ≤ x.toInt) : x.toInt = (x.toBitVec.toNat : Int) ∧ x.toBitVec.toNat < 2147483648 := by
  have e : x.toInt = x.toBitVec.toInt := rfl
  have := x.toBitVec.isLt
  rw [e, BitVec.toInt_eq_toNat_cond] at hx ⊢
  split at hx <;> rename_i q
  · rw [if_pos q]; omega
  · omega
theorem own_ofnat (x : Int32) (h : x.toBitVec.toNat < 2147483648) : x.toInt = (x.toBitVec.toNat : Int) := by
  have e : x.toInt = x.toBitVec.toInt := rfl
  rw [e, BitVec.toInt_eq_toNat_cond, if_pos (by omega)]
theorem own_i2c (x : Int32) : (x.toUInt32.toUInt16.toUInt32.toInt32).toInt = x.toInt % 65536 := by
  have n1 : (x.toUInt32.toUInt16.toUInt32.toInt32).toBitVec.toNat = x.toBitVec.toNat % 65536 := by simp
  rw [own_ofnat _ (by omega), n1]
  have e2 : x.toInt = Int.bmod x.toBitVec.toNat (2 ^ 32) := BitVec.toInt_eq_toNat_bmod _
  rw [e2, Int.bmod_def]
  omega
theorem own_i2b (x : Int32) : (x.toInt8.toInt32).toInt = (x.toInt + 128) % 256 - 128 := by
  rw [Int8.toInt_toInt32, Int32.toInt_toInt8, Int.bmod_def]
  omega
theorem own_or4 (A B C D : Nat) (hA : A < 256) (hB : B < 256) (hC : C < 256) (hD : D < 256) : ((A <<< 24 ||| B <<< 16) ||| C <<< 8) ||| D = A * 16777216 + B * 65536 + C * 256 + D := by
  have h1 : B <<< 16 < 2 ^ 24 := by rw [Nat.shiftLeft_eq]; omega
  rw [← Nat.shiftLeft_add_eq_or_of_lt h1]
  have e1 : A <<< 24 + B <<< 16 = (A * 256 + B) <<< 16 := by rw [Nat.shiftLeft_eq, Nat.shiftLeft_eq, Nat.shiftLeft_eq]; omega
  have h2 : C <<< 8 < 2 ^ 16 := by rw [Nat.shiftLeft_eq]; omega
  rw [e1, ← Nat.shiftLeft_add_eq_or_of_lt h2]
  have e2 : (A * 256 + B) <<< 16 + C <<< 8 = (A * 65536 + B * 256 + C) <<< 8 := by rw [Nat.shiftLeft_eq, Nat.shiftLeft_eq, Nat.shiftLeft_eq]; omega
  have h3 : D < 2 ^ 8 := hD
  rw [e2, ← Nat.shiftLeft_add_eq_or_of_lt h3, Nat.shiftLeft_eq]
  omega
theorem own_unat (x : Int32) : ((x.toBitVec.toNat : Nat) : Int) = x.toInt % 4294967296 := by
  have e2 : x.toInt = Int.bmod x.toBitVec.toNat (2 ^ 32) := BitVec.toInt_eq_toNat_bmod _
  have := x.toBitVec.isLt
  rw [e2, Int.bmod_def]
  omega
/-- the byte under a mask: its value as a number -/
theorem own_mask8 (x : Int32) : (x.toInt8.toInt32 &&& 255).toBitVec.toNat = x.toBitVec.toNat % 256 := by
  have m : (x.toInt8.toInt32 &&& 255).toInt = (x.toInt8.toInt32).toInt % 2 ^ 8 := Jvm.Kit.i32_mask _ 255 (by decide) (by decide)
  have u := own_unat (x.toInt8.toInt32 &&& 255)
  have v := own_unat x
  rw [own_i2b] at m
  omega
theorem own_shl (x : Int32) (n : Int32) {k : Nat} (hk : ((n &&& 31).toBitVec.smod 32).toNat = k) (hx : x.toBitVec.toNat <<< k < 4294967296) : (x <<< (n &&& 31)).toBitVec.toNat = x.toBitVec.toNat <<< k := by
  have e : (x <<< (n &&& 31)).toBitVec = x.toBitVec <<< ((n &&& 31).toBitVec.smod 32) := rfl
  rw [e, BitVec.shiftLeft_eq', BitVec.toNat_shiftLeft, hk]
  exact Nat.mod_eq_of_lt hx
def own_DL : List Int32 := [48, 49, 50, 51, 52, 53, 54, 55, 56, 57, 97, 98, 99, 100, 101, 102]
def own_dg (x : Int32) : Int32 := own_DL.getD x.toNatClampNeg 0
def own_hB (L : List Int32) : Prop := ∀ i, (L.getD i 0).toInt8.toInt32 = L.getD i 0
theorem own_DB : own_hB own_DL := by
  intro i
  rcases i with _ | _ | _ | _ | _ | _ | _ | _ | _ | _ | _ | _ | _ | _ | _ | _ | i <;> rfl
theorem own_gd (L : List Int32) (n : Nat) (h : n < L.length) : L[n]? = some (L.getD n 0) := by
  rw [List.getD_eq_getElem?_getD, List.getElem?_eq_getElem h]; rfl
theorem own_m15 (x : Int32) : ¬ (x &&& 15) < 0 ∧ (x &&& 15).toNatClampNeg < own_DL.length := by
  have m : (x &&& 15).toInt = x.toInt % 2 ^ 4 := Jvm.Kit.i32_mask x 15 (by decide) (by decide)
  have e : (x &&& 15).toNatClampNeg = (x &&& 15).toInt.toNat := rfl
  rw [Int32.lt_iff_toInt_lt, show (0 : Int32).toInt = 0 from rfl, e, m]
  refine ⟨by omega, ?_⟩
  show _ < 16
  omega
def own_hi (b : Int32) : Int32 := own_dg (((b.toUInt32 >>> ((4 : Int32) &&& 31).toUInt32).toInt32) &&& 15)
def own_lo (b : Int32) : Int32 := own_dg (b &&& 15)
/-- what encode makes of the text M in k more turns, from the turn i on -/
def own_enc (L : List Int32) (a : Int32) : Nat → Int32 → List Int32 → List Int32
  | 0, _, M => M
  | k + 1, i, M => own_enc L a k (i + 1) ((M.set (2 * i).toNatClampNeg (own_hi (L.getD (a + i).toNatClampNeg 0))).set (2 * i + 1).toNatClampNeg (own_lo (L.getD (a + i).toNatClampNeg 0)))
theorem own_enc_len (L : List Int32) (a : Int32) (k : Nat) (i : Int32) (M : List Int32) : (own_enc L a k i M).length = M.length := by
  induction k generalizing i M with
  | zero => rfl
  | succ k ih =>
    show (own_enc L a k (i + 1) _).length = _
    rw [ih]; simp
theorem d3_0 : decode method_4_code 0 = .ok (.iload_n 0, 1) := by decide +kernel
theorem d3_1 : decode method_4_code 1 = .ok (.bipush 10, 2) := by decide +kernel
theorem d3_3 : decode method_4_code 3 = .ok (.if_icmp .ge 9, 3) := by decide +kernel
theorem d3_6 : decode method_4_code 6 = .ok (.bipush 48, 2) := by decide +kernel
theorem d3_8 : decode method_4_code 8 = .ok (.iload_n 0, 1) := by decide +kernel
theorem d3_9 : decode method_4_code 9 = .ok (.iadd, 1) := by decide +kernel
theorem d3_10 : decode method_4_code 10 = .ok (.i2b, 1) := by decide +kernel
theorem d3_11 : decode method_4_code 11 = .ok (.ireturn, 1) := by decide +kernel
theorem d3_12 : decode method_4_code 12 = .ok (.bipush 97, 2) := by decide +kernel
theorem d3_14 : decode method_4_code 14 = .ok (.iload_n 0, 1) := by decide +kernel
theorem d3_15 : decode method_4_code 15 = .ok (.bipush 10, 2) := by decide +kernel
theorem d3_17 : decode method_4_code 17 = .ok (.isub, 1) := by decide +kernel
theorem d3_18 : decode method_4_code 18 = .ok (.iadd, 1) := by decide +kernel
theorem d3_19 : decode method_4_code 19 = .ok (.i2b, 1) := by decide +kernel
theorem d3_20 : decode method_4_code 20 = .ok (.ireturn, 1) := by decide +kernel
/-- what the body returns -/
def own_F3 (p0 : Int32) : Int32 :=
  (if p0 < (10 : Int32) then (((48 : Int32) + p0).toInt8.toInt32) else (((97 : Int32) + (p0 - (10 : Int32))).toInt8.toInt32))
theorem own_ef3 (m : MethodId) (p0 : Int32) : entryFrame m #[(.int p0)] 1 = mkF m 0 #[.val (.int p0)] [] := by first | (simp [entryFrame, mkF, argsToLocals, Value.category]; done) | rfl
set_option maxRecDepth 65536 in
set_option maxHeartbeats 40000000 in
theorem own_c3 (l : Launch) (Z : State) (a0 : Array Value) (hw : ∀ d ∈ tables_1, d.before a0 Z = true) (h0 : Heap) (n0 : Nat) (Z0 : n0 ≤ h0.size) (p0 : Int32) :
    own_M l (⟨"com/example/luoshu/luoshu/HexEncodePinLaw", "digit", "(I)B"⟩ : MethodName) method_4_code 1 (some .byte) [] ({ frames := 0, cells := 0, slots := 0, locals := 0 } : Room) Z #[(.int p0)] h0 (own_Q n0 h0 [] (own_P (.int (own_F3 p0)) h0)) := by
  refine own_body (plainFor_of_name own_pn0) ?_
  intro p e s m below meth c T0 X0 hx hby hml hown hnm hret hlk hZ
  refine own_cast (own_ef3 m p0) ?_
  refine own_st (f' := (mkF m 1 #[.val (.int p0)] [(.int p0)])) (fun t k => XS.iloadN X0.her hx rfl (hb hby d3_0) rfl k) ?_
  refine own_st (f' := (mkF m 3 #[.val (.int p0)] [(.int (10 : Int32)), (.int p0)])) (fun t k => XS.bipush X0.her hx rfl (hb hby d3_1) k) ?_
  by_cases hc1 : p0 < (10 : Int32)
  · refine own_st (f' := (mkF m 6 #[.val (.int p0)] [])) (fun t k => XS.icmpNo X0.her hx rfl (hb hby d3_3) rfl (tlt hc1).2.1 k) ?_
    refine own_st (f' := (mkF m 8 #[.val (.int p0)] [(.int (48 : Int32))])) (fun t k => XS.bipush X0.her hx rfl (hb hby d3_6) k) ?_
    refine own_st (f' := (mkF m 9 #[.val (.int p0)] [(.int p0), (.int (48 : Int32))])) (fun t k => XS.iloadN X0.her hx rfl (hb hby d3_8) rfl k) ?_
    refine own_st (f' := (mkF m 10 #[.val (.int p0)] [(.int ((48 : Int32) + p0))])) (fun t k => XS.iadd X0.her hx rfl (hb hby d3_9) rfl k) ?_
    refine own_st (f' := (mkF m 11 #[.val (.int p0)] [(.int (((48 : Int32) + p0).toInt8.toInt32))])) (fun t k => XS.i2b X0.her hx rfl (hb hby d3_10) rfl k) ?_
    refine own_retN (t := .byte) X0 hx hret hlk (by simp) (hb hby d3_11) (by first | decide | omega) (by first | decide | omega) ?_
    exact ⟨congrArg (fun q => some (Value.int q)) (by unfold own_F3; rw [if_pos hc1]; first | done | exact own_b2 _), rfl⟩
  · refine own_st (f' := (mkF m 12 #[.val (.int p0)] [])) (fun t k => XS.icmpYes X0.her hx rfl (pc0 := 3) (pc' := 12) rfl (hb hby d3_3) rfl (flt hc1).2.1 (by decide) (by decide) k) ?_
    refine own_st (f' := (mkF m 14 #[.val (.int p0)] [(.int (97 : Int32))])) (fun t k => XS.bipush X0.her hx rfl (hb hby d3_12) k) ?_
    refine own_st (f' := (mkF m 15 #[.val (.int p0)] [(.int p0), (.int (97 : Int32))])) (fun t k => XS.iloadN X0.her hx rfl (hb hby d3_14) rfl k) ?_
    refine own_st (f' := (mkF m 17 #[.val (.int p0)] [(.int (10 : Int32)), (.int p0), (.int (97 : Int32))])) (fun t k => XS.bipush X0.her hx rfl (hb hby d3_15) k) ?_
    refine own_st (f' := (mkF m 18 #[.val (.int p0)] [(.int (p0 - (10 : Int32))), (.int (97 : Int32))])) (fun t k => XS.isub X0.her hx rfl (hb hby d3_17) rfl k) ?_
    refine own_st (f' := (mkF m 19 #[.val (.int p0)] [(.int ((97 : Int32) + (p0 - (10 : Int32))))])) (fun t k => XS.iadd X0.her hx rfl (hb hby d3_18) rfl k) ?_
    refine own_st (f' := (mkF m 20 #[.val (.int p0)] [(.int (((97 : Int32) + (p0 - (10 : Int32))).toInt8.toInt32))])) (fun t k => XS.i2b X0.her hx rfl (hb hby d3_19) rfl k) ?_
    refine own_retN (t := .byte) X0 hx hret hlk (by simp) (hb hby d3_20) (by first | decide | omega) (by first | decide | omega) ?_
    exact ⟨congrArg (fun q => some (Value.int q)) (by unfold own_F3; rw [if_neg hc1]; first | done | exact own_b2 _), rfl⟩
theorem d1_3 : decode prog_3_method_3_code 3 = .ok (.iload 4, 2) := by decide +kernel
theorem d1_5 : decode prog_3_method_3_code 5 = .ok (.iload_n 2, 1) := by decide +kernel
theorem d1_6 : decode prog_3_method_3_code 6 = .ok (.if_icmp .ge 51, 3) := by decide +kernel
theorem d1_57 : decode prog_3_method_3_code 57 = .ok (.return_, 1) := by decide +kernel
theorem d1_9 : decode prog_3_method_3_code 9 = .ok (.aload_n 3, 1) := by decide +kernel
theorem d1_10 : decode prog_3_method_3_code 10 = .ok (.iconst 2, 1) := by decide +kernel
theorem d1_11 : decode prog_3_method_3_code 11 = .ok (.iload 4, 2) := by decide +kernel
theorem d1_13 : decode prog_3_method_3_code 13 = .ok (.imul, 1) := by decide +kernel
theorem d1_14 : decode prog_3_method_3_code 14 = .ok (.getstatic 24, 3) := by decide +kernel
theorem d1_17 : decode prog_3_method_3_code 17 = .ok (.aload_n 0, 1) := by decide +kernel
theorem d1_18 : decode prog_3_method_3_code 18 = .ok (.iload_n 1, 1) := by decide +kernel
theorem d1_19 : decode prog_3_method_3_code 19 = .ok (.iload 4, 2) := by decide +kernel
theorem d1_21 : decode prog_3_method_3_code 21 = .ok (.iadd, 1) := by decide +kernel
theorem d1_22 : decode prog_3_method_3_code 22 = .ok (.baload, 1) := by decide +kernel
theorem d1_23 : decode prog_3_method_3_code 23 = .ok (.iconst 4, 1) := by decide +kernel
theorem d1_24 : decode prog_3_method_3_code 24 = .ok (.iushr, 1) := by decide +kernel
theorem d1_25 : decode prog_3_method_3_code 25 = .ok (.bipush 15, 2) := by decide +kernel
theorem d1_27 : decode prog_3_method_3_code 27 = .ok (.iand, 1) := by decide +kernel
theorem d1_28 : decode prog_3_method_3_code 28 = .ok (.baload, 1) := by decide +kernel
theorem d1_29 : decode prog_3_method_3_code 29 = .ok (.bastore, 1) := by decide +kernel
theorem d1_30 : decode prog_3_method_3_code 30 = .ok (.aload_n 3, 1) := by decide +kernel
theorem d1_31 : decode prog_3_method_3_code 31 = .ok (.iconst 2, 1) := by decide +kernel
theorem d1_32 : decode prog_3_method_3_code 32 = .ok (.iload 4, 2) := by decide +kernel
theorem d1_34 : decode prog_3_method_3_code 34 = .ok (.imul, 1) := by decide +kernel
theorem d1_35 : decode prog_3_method_3_code 35 = .ok (.iconst 1, 1) := by decide +kernel
theorem d1_36 : decode prog_3_method_3_code 36 = .ok (.iadd, 1) := by decide +kernel
theorem d1_37 : decode prog_3_method_3_code 37 = .ok (.getstatic 24, 3) := by decide +kernel
theorem d1_40 : decode prog_3_method_3_code 40 = .ok (.aload_n 0, 1) := by decide +kernel
theorem d1_41 : decode prog_3_method_3_code 41 = .ok (.iload_n 1, 1) := by decide +kernel
theorem d1_42 : decode prog_3_method_3_code 42 = .ok (.iload 4, 2) := by decide +kernel
theorem d1_44 : decode prog_3_method_3_code 44 = .ok (.iadd, 1) := by decide +kernel
theorem d1_45 : decode prog_3_method_3_code 45 = .ok (.baload, 1) := by decide +kernel
theorem d1_46 : decode prog_3_method_3_code 46 = .ok (.bipush 15, 2) := by decide +kernel
theorem d1_48 : decode prog_3_method_3_code 48 = .ok (.iand, 1) := by decide +kernel
theorem d1_49 : decode prog_3_method_3_code 49 = .ok (.baload, 1) := by decide +kernel
theorem d1_50 : decode prog_3_method_3_code 50 = .ok (.bastore, 1) := by decide +kernel
theorem d1_51 : decode prog_3_method_3_code 51 = .ok (.iinc 4 1, 3) := by decide +kernel
theorem d1_54 : decode prog_3_method_3_code 54 = .ok (.goto (-51), 3) := by decide +kernel
set_option maxRecDepth 65536 in
set_option maxHeartbeats 40000000 in
theorem own_lp1 {p : Program} {l : Launch} {e : Env} {R : Room} {s : State} {m : MethodId} {args : Array Value} {below : List Frame} {meth : Method} {c : Code} {Z : State} {a0 : Array Value} {n0 : Nat} {C S : Nat} (hw : ∀ d ∈ tables_1, d.before a0 Z = true) (hx : p.tables.exec = Jvm.exec) (hby : c.code = prog_3_method_3_code) (hml : c.maxLocals = 5) (hown : s.vm.findClass "com/example/luoshu/luoshu/Hex" = some m.cls) (hret : meth.sig.returnType = none) (hlk : meth.locks = false) (hZ : Z.Warmed39 s.vm) {h0 : Heap} (r0 r3 vd : Addr) (p1 p2 : Int32) (L : List Int32) (g0 : n0 ≤ r3) (ne_r0_r3 : r0 ≠ r3) (ne_vd_r3 : vd ≠ r3) (ha : 0 ≤ p1.toInt) (hL : p1.toInt + p2.toInt ≤ (L.length : Int)) (hp2 : p2.toInt ≤ 4) (hp1 : p1.toInt ≤ 4) :
    ∀ (k : Nat) (i : Int32) (T0 : State) (h : Heap) (M : List Int32), own_S p l e R s m args below meth c n0 h0 [r3] T0 h 0 0 → own_B Z h r0 L → own_B Z h vd own_DL → own_B Z h r3 M → Sta Z h "com/example/luoshu/luoshu/Hex" "DIGITS" "[B" (.ref vd) → 8 ≤ M.length → 0 ≤ i.toInt → (p2.toInt - i.toInt).toNat = k → own_G p e below (own_D s (own_Q n0 h0 [r3] (fun v h => v = none ∧ own_B Z h r0 L ∧ own_B Z h r3 (own_enc L p1 k i M))) C S) T0 (mkF m 3 #[.val (.ref r0), .val (.int p1), .val (.int p2), .val (.ref r3), .val (.int i)] []) := by
  intro k
  induction k with
  | zero =>
    intro i T0 h M X0 B0 BD BM S0 hM hi hk
    have hge : ¬ i < p2 := by rw [Int32.lt_iff_toInt_lt]; omega
    refine own_st (f' := (mkF m 5 #[.val (.ref r0), .val (.int p1), .val (.int p2), .val (.ref r3), .val (.int i)] [(.int i)])) (fun t k => XS.iload X0.her hx rfl (hb hby d1_3) rfl k) ?_
    refine own_st (f' := (mkF m 6 #[.val (.ref r0), .val (.int p1), .val (.int p2), .val (.ref r3), .val (.int i)] [(.int p2), (.int i)])) (fun t k => XS.iloadN X0.her hx rfl (hb hby d1_5) rfl k) ?_
    refine own_st (f' := (mkF m 57 #[.val (.ref r0), .val (.int p1), .val (.int p2), .val (.ref r3), .val (.int i)] [])) (fun t k => XS.icmpYes X0.her hx rfl (pc0 := 6) (pc' := 57) rfl (hb hby d1_6) rfl (flt (hge : ¬ (i < p2))).2.1 (by decide) (by decide) k) ?_
    refine own_ret0 X0 hx hret hlk (hb hby d1_57) (by first | decide | omega) (by first | decide | omega) ?_
    exact ⟨rfl, B0, BM⟩
  | succ k ih =>
    intro i T0 h M X0 B0 BD BM S0 hM hi hk
    have z1 : (1 : Int32).toInt = 1 := rfl
    have z2 : (2 : Int32).toInt = 2 := rfl
    have hlt : i < p2 := by rw [Int32.lt_iff_toInt_lt]; omega
    have e0 : (p1 + i).toInt = p1.toInt + i.toInt := Jvm.Kit.i32_add (by omega) (by omega)
    have e1 : (2 * i).toInt = 2 * i.toInt := by rw [Jvm.Kit.i32_mul (by rw [z2]; omega) (by rw [z2]; omega), z2]
    have e2 : (2 * i + 1).toInt = 2 * i.toInt + 1 := by rw [Jvm.Kit.i32_add (by omega) (by omega), e1, z1]
    have e3 : (i + 1).toInt = i.toInt + 1 := by rw [Jvm.Kit.i32_add (by omega) (by omega), z1]
    have f0 : (p1 + i).toNatClampNeg = (p1 + i).toInt.toNat := rfl
    have f1 : (2 * i).toNatClampNeg = (2 * i).toInt.toNat := rfl
    have f2 : (2 * i + 1).toNatClampNeg = (2 * i + 1).toInt.toNat := rfl
    have hjb : ¬ (p1 + i) < 0 := by rw [Int32.lt_iff_toInt_lt, show (0 : Int32).toInt = 0 from rfl]; omega
    have hj2 : ¬ (2 * i) < 0 := by rw [Int32.lt_iff_toInt_lt, show (0 : Int32).toInt = 0 from rfl]; omega
    have hj3 : ¬ (2 * i + 1) < 0 := by rw [Int32.lt_iff_toInt_lt, show (0 : Int32).toInt = 0 from rfl]; omega
    have hnb : (p1 + i).toNatClampNeg < L.length := by omega
    refine own_st (f' := (mkF m 5 #[.val (.ref r0), .val (.int p1), .val (.int p2), .val (.ref r3), .val (.int i)] [(.int i)])) (fun t k => XS.iload X0.her hx rfl (hb hby d1_3) rfl k) ?_
    refine own_st (f' := (mkF m 6 #[.val (.ref r0), .val (.int p1), .val (.int p2), .val (.ref r3), .val (.int i)] [(.int p2), (.int i)])) (fun t k => XS.iloadN X0.her hx rfl (hb hby d1_5) rfl k) ?_
    refine own_st (f' := (mkF m 9 #[.val (.ref r0), .val (.int p1), .val (.int p2), .val (.ref r3), .val (.int i)] [])) (fun t k => XS.icmpNo X0.her hx rfl (hb hby d1_6) rfl (tlt (hlt : i < p2)).2.1 k) ?_
    refine own_st (f' := (mkF m 10 #[.val (.ref r0), .val (.int p1), .val (.int p2), .val (.ref r3), .val (.int i)] [(.ref r3)])) (fun t k => XS.aloadN X0.her hx rfl (hb hby d1_9) rfl rfl k) ?_
    refine own_st (f' := (mkF m 11 #[.val (.ref r0), .val (.int p1), .val (.int p2), .val (.ref r3), .val (.int i)] [(.int (2 : Int32)), (.ref r3)])) (fun t k => XS.iconst X0.her hx rfl (hb hby d1_10) k) ?_
    refine own_st (f' := (mkF m 13 #[.val (.ref r0), .val (.int p1), .val (.int p2), .val (.ref r3), .val (.int i)] [(.int i), (.int (2 : Int32)), (.ref r3)])) (fun t k => XS.iload X0.her hx rfl (hb hby d1_11) rfl k) ?_
    refine own_st (f' := (mkF m 14 #[.val (.ref r0), .val (.int p1), .val (.int p2), .val (.ref r3), .val (.int i)] [(.int ((2 : Int32) * i)), (.ref r3)])) (fun t k => XS.imul X0.her hx rfl (hb hby d1_13) rfl k) ?_
    refine own_getS X0 hx hZ hown (own_w9 hw) S0 (hb hby d1_14) ?_
    intro T2 X2
    refine own_st (f' := (mkF m 18 #[.val (.ref r0), .val (.int p1), .val (.int p2), .val (.ref r3), .val (.int i)] [(.ref r0), (.ref vd), (.int ((2 : Int32) * i)), (.ref r3)])) (fun t k => XS.aloadN X2.her hx rfl (hb hby d1_17) rfl rfl k) ?_
    refine own_st (f' := (mkF m 19 #[.val (.ref r0), .val (.int p1), .val (.int p2), .val (.ref r3), .val (.int i)] [(.int p1), (.ref r0), (.ref vd), (.int ((2 : Int32) * i)), (.ref r3)])) (fun t k => XS.iloadN X2.her hx rfl (hb hby d1_18) rfl k) ?_
    refine own_st (f' := (mkF m 21 #[.val (.ref r0), .val (.int p1), .val (.int p2), .val (.ref r3), .val (.int i)] [(.int i), (.int p1), (.ref r0), (.ref vd), (.int ((2 : Int32) * i)), (.ref r3)])) (fun t k => XS.iload X2.her hx rfl (hb hby d1_19) rfl k) ?_
    refine own_st (f' := (mkF m 22 #[.val (.ref r0), .val (.int p1), .val (.int p2), .val (.ref r3), .val (.int i)] [(.int (p1 + i)), (.ref r0), (.ref vd), (.int ((2 : Int32) * i)), (.ref r3)])) (fun t k => XS.iadd X2.her hx rfl (hb hby d1_21) rfl k) ?_
    refine own_bload (v := (L.getD (p1 + i).toNatClampNeg 0)) X2 hx hZ B0 hjb (own_gd _ _ hnb) (hb hby d1_22) ?_
    refine own_st (f' := (mkF m 24 #[.val (.ref r0), .val (.int p1), .val (.int p2), .val (.ref r3), .val (.int i)] [(.int (4 : Int32)), (.int (L.getD (p1 + i).toNatClampNeg 0)), (.ref vd), (.int ((2 : Int32) * i)), (.ref r3)])) (fun t k => XS.iconst X2.her hx rfl (hb hby d1_23) k) ?_
    refine own_st (f' := (mkF m 25 #[.val (.ref r0), .val (.int p1), .val (.int p2), .val (.ref r3), .val (.int i)] [(.int (((L.getD (p1 + i).toNatClampNeg 0).toUInt32 >>> ((4 : Int32) &&& 31).toUInt32).toInt32)), (.ref vd), (.int ((2 : Int32) * i)), (.ref r3)])) (fun t k => XS.iushr X2.her hx rfl (hb hby d1_24) rfl k) ?_
    refine own_st (f' := (mkF m 27 #[.val (.ref r0), .val (.int p1), .val (.int p2), .val (.ref r3), .val (.int i)] [(.int (15 : Int32)), (.int (((L.getD (p1 + i).toNatClampNeg 0).toUInt32 >>> ((4 : Int32) &&& 31).toUInt32).toInt32)), (.ref vd), (.int ((2 : Int32) * i)), (.ref r3)])) (fun t k => XS.bipush X2.her hx rfl (hb hby d1_25) k) ?_
    refine own_st (f' := (mkF m 28 #[.val (.ref r0), .val (.int p1), .val (.int p2), .val (.ref r3), .val (.int i)] [(.int ((((L.getD (p1 + i).toNatClampNeg 0).toUInt32 >>> ((4 : Int32) &&& 31).toUInt32).toInt32) &&& (15 : Int32))), (.ref vd), (.int ((2 : Int32) * i)), (.ref r3)])) (fun t k => XS.iand X2.her hx rfl (hb hby d1_27) rfl k) ?_
    refine own_bload (v := (own_hi (L.getD (p1 + i).toNatClampNeg 0))) X2 hx hZ BD (own_m15 _).1 (own_gd _ _ (own_m15 _).2) (hb hby d1_28) ?_
    refine own_bstore X2 hx hZ BM hj2 (by omega) (hb hby d1_29) g0 (Or.inl (List.mem_cons_self)) ?_
    intro T3 h3 X3 K3 W3 B3
    have S3_DIGITS := S0.wr W3
    rw [show ((own_hi (L.getD (p1 + i).toNatClampNeg 0))).toInt8.toInt32 = (own_hi (L.getD (p1 + i).toNatClampNeg 0)) from own_DB _] at B3
    replace B3 : own_B Z h3 r3 (M.set (2 * i).toNatClampNeg (own_hi (L.getD (p1 + i).toNatClampNeg 0))) := B3
    have B3_r0 := B0.keep K3 (ninS ne_r0_r3 nin0)
    have B3_vd := BD.keep K3 (ninS ne_vd_r3 nin0)
    refine own_st (f' := (mkF m 31 #[.val (.ref r0), .val (.int p1), .val (.int p2), .val (.ref r3), .val (.int i)] [(.ref r3)])) (fun t k => XS.aloadN X3.her hx rfl (hb hby d1_30) rfl rfl k) ?_
    refine own_st (f' := (mkF m 32 #[.val (.ref r0), .val (.int p1), .val (.int p2), .val (.ref r3), .val (.int i)] [(.int (2 : Int32)), (.ref r3)])) (fun t k => XS.iconst X3.her hx rfl (hb hby d1_31) k) ?_
    refine own_st (f' := (mkF m 34 #[.val (.ref r0), .val (.int p1), .val (.int p2), .val (.ref r3), .val (.int i)] [(.int i), (.int (2 : Int32)), (.ref r3)])) (fun t k => XS.iload X3.her hx rfl (hb hby d1_32) rfl k) ?_
    refine own_st (f' := (mkF m 35 #[.val (.ref r0), .val (.int p1), .val (.int p2), .val (.ref r3), .val (.int i)] [(.int ((2 : Int32) * i)), (.ref r3)])) (fun t k => XS.imul X3.her hx rfl (hb hby d1_34) rfl k) ?_
    refine own_st (f' := (mkF m 36 #[.val (.ref r0), .val (.int p1), .val (.int p2), .val (.ref r3), .val (.int i)] [(.int (1 : Int32)), (.int ((2 : Int32) * i)), (.ref r3)])) (fun t k => XS.iconst X3.her hx rfl (hb hby d1_35) k) ?_
    refine own_st (f' := (mkF m 37 #[.val (.ref r0), .val (.int p1), .val (.int p2), .val (.ref r3), .val (.int i)] [(.int (((2 : Int32) * i) + (1 : Int32))), (.ref r3)])) (fun t k => XS.iadd X3.her hx rfl (hb hby d1_36) rfl k) ?_
    refine own_getS X3 hx hZ hown (own_w9 hw) S3_DIGITS (hb hby d1_37) ?_
    intro T4 X4
    refine own_st (f' := (mkF m 41 #[.val (.ref r0), .val (.int p1), .val (.int p2), .val (.ref r3), .val (.int i)] [(.ref r0), (.ref vd), (.int (((2 : Int32) * i) + (1 : Int32))), (.ref r3)])) (fun t k => XS.aloadN X4.her hx rfl (hb hby d1_40) rfl rfl k) ?_
    refine own_st (f' := (mkF m 42 #[.val (.ref r0), .val (.int p1), .val (.int p2), .val (.ref r3), .val (.int i)] [(.int p1), (.ref r0), (.ref vd), (.int (((2 : Int32) * i) + (1 : Int32))), (.ref r3)])) (fun t k => XS.iloadN X4.her hx rfl (hb hby d1_41) rfl k) ?_
    refine own_st (f' := (mkF m 44 #[.val (.ref r0), .val (.int p1), .val (.int p2), .val (.ref r3), .val (.int i)] [(.int i), (.int p1), (.ref r0), (.ref vd), (.int (((2 : Int32) * i) + (1 : Int32))), (.ref r3)])) (fun t k => XS.iload X4.her hx rfl (hb hby d1_42) rfl k) ?_
    refine own_st (f' := (mkF m 45 #[.val (.ref r0), .val (.int p1), .val (.int p2), .val (.ref r3), .val (.int i)] [(.int (p1 + i)), (.ref r0), (.ref vd), (.int (((2 : Int32) * i) + (1 : Int32))), (.ref r3)])) (fun t k => XS.iadd X4.her hx rfl (hb hby d1_44) rfl k) ?_
    refine own_bload (v := (L.getD (p1 + i).toNatClampNeg 0)) X4 hx hZ B3_r0 hjb (own_gd _ _ hnb) (hb hby d1_45) ?_
    refine own_st (f' := (mkF m 48 #[.val (.ref r0), .val (.int p1), .val (.int p2), .val (.ref r3), .val (.int i)] [(.int (15 : Int32)), (.int (L.getD (p1 + i).toNatClampNeg 0)), (.ref vd), (.int (((2 : Int32) * i) + (1 : Int32))), (.ref r3)])) (fun t k => XS.bipush X4.her hx rfl (hb hby d1_46) k) ?_
    refine own_st (f' := (mkF m 49 #[.val (.ref r0), .val (.int p1), .val (.int p2), .val (.ref r3), .val (.int i)] [(.int ((L.getD (p1 + i).toNatClampNeg 0) &&& (15 : Int32))), (.ref vd), (.int (((2 : Int32) * i) + (1 : Int32))), (.ref r3)])) (fun t k => XS.iand X4.her hx rfl (hb hby d1_48) rfl k) ?_
    refine own_bload (v := (own_lo (L.getD (p1 + i).toNatClampNeg 0))) X4 hx hZ B3_vd (own_m15 _).1 (own_gd _ _ (own_m15 _).2) (hb hby d1_49) ?_
    refine own_bstore X4 hx hZ B3 hj3 (by rw [List.length_set]; omega) (hb hby d1_50) g0 (Or.inl (List.mem_cons_self)) ?_
    intro T5 h5 X5 K5 W5 B5
    have S5_DIGITS := S3_DIGITS.wr W5
    rw [show ((own_lo (L.getD (p1 + i).toNatClampNeg 0))).toInt8.toInt32 = (own_lo (L.getD (p1 + i).toNatClampNeg 0)) from own_DB _] at B5
    replace B5 : own_B Z h5 r3 ((M.set (2 * i).toNatClampNeg (own_hi (L.getD (p1 + i).toNatClampNeg 0))).set (2 * i + 1).toNatClampNeg (own_lo (L.getD (p1 + i).toNatClampNeg 0))) := B5
    have B5_r0 := B3_r0.keep K5 (ninS ne_r0_r3 nin0)
    have B5_vd := B3_vd.keep K5 (ninS ne_vd_r3 nin0)
    refine own_st (f' := (mkF m 54 #[.val (.ref r0), .val (.int p1), .val (.int p2), .val (.ref r3), .val (.int (i + (1 : Int32)))] [])) (fun t k => XS.iinc X5.her hx rfl (hb hby d1_51) rfl (l' := #[.val (.ref r0), .val (.int p1), .val (.int p2), .val (.ref r3), .val (.int (i + (1 : Int32)))]) rfl k) ?_
    refine own_st (f' := (mkF m 3 #[.val (.ref r0), .val (.int p1), .val (.int p2), .val (.ref r3), .val (.int (i + (1 : Int32)))] [])) (fun t k => XS.goto X5.her hx rfl (pc0 := 54) (pc' := 3) rfl (hb hby d1_54) (by decide) (by decide) k) ?_
    exact ih _ _ _ _ X5 B5_r0 B5_vd B5 S5_DIGITS (by simpa using hM) (by omega) (by omega)
theorem d1_0 : decode prog_3_method_3_code 0 = .ok (.iconst 0, 1) := by decide +kernel
theorem d1_1 : decode prog_3_method_3_code 1 = .ok (.istore 4, 2) := by decide +kernel
theorem own_ef1 (m : MethodId) (r0 : Addr) (p1 : Int32) (p2 : Int32) (r3 : Addr) : entryFrame m #[(.ref r0), (.int p1), (.int p2), (.ref r3)] 5 = mkF m 0 #[.val (.ref r0), .val (.int p1), .val (.int p2), .val (.ref r3), .unset] [] := by first | (simp [entryFrame, mkF, argsToLocals, Value.category]; done) | rfl
set_option maxRecDepth 65536 in
set_option maxHeartbeats 40000000 in
theorem own_c1 (l : Launch) (Z : State) (a0 : Array Value) (hw : ∀ d ∈ tables_1, d.before a0 Z = true) (h0 : Heap) (n0 : Nat) (Z0 : n0 ≤ h0.size) (r0 : Addr) (p1 : Int32) (p2 : Int32) (r3 : Addr) (vd : Addr) (L M : List Int32) (B0 : own_B Z h0 r0 L) (BD : own_B Z h0 vd own_DL) (BM : own_B Z h0 r3 M) (S0 : Sta Z h0 "com/example/luoshu/luoshu/Hex" "DIGITS" "[B" (.ref vd)) (g0 : n0 ≤ r3) (ne_r0_r3 : r0 ≠ r3) (ne_vd_r3 : vd ≠ r3) (ha : 0 ≤ p1.toInt) (hL : p1.toInt + p2.toInt ≤ (L.length : Int)) (hp2 : p2.toInt ≤ 4) (hp1 : p1.toInt ≤ 4) (hM : 8 ≤ M.length) :
    own_M l (⟨"com/example/luoshu/luoshu/Hex", "encode", "([BII[B)V"⟩ : MethodName) prog_3_method_3_code 5 none [] ({ frames := 0, cells := 0, slots := 0, locals := 0 } : Room) Z #[(.ref r0), (.int p1), (.int p2), (.ref r3)] h0 (own_Q n0 h0 [r3] (fun v h => v = none ∧ own_B Z h r0 L ∧ own_B Z h r3 (own_enc L p1 ((p2.toInt - (0 : Int32).toInt).toNat) (0 : Int32) M))) := by
  refine own_body (plainFor_of_name own_pn1) ?_
  intro p e s m below meth c T0 X0 hx hby hml hown hnm hret hlk hZ
  refine own_cast (own_ef1 m r0 p1 p2 r3) ?_
  refine own_st (f' := (mkF m 1 #[.val (.ref r0), .val (.int p1), .val (.int p2), .val (.ref r3), .unset] [(.int (0 : Int32))])) (fun t k => XS.iconst X0.her hx rfl (hb hby d1_0) k) ?_
  refine own_st (f' := (mkF m 3 #[.val (.ref r0), .val (.int p1), .val (.int p2), .val (.ref r3), .val (.int (0 : Int32))] [])) (fun t k => XS.istore X0.her hx rfl (hb hby d1_1) rfl (l' := #[.val (.ref r0), .val (.int p1), .val (.int p2), .val (.ref r3), .val (.int (0 : Int32))]) rfl k) ?_
  exact own_lp1 hw hx hby hml hown hret hlk hZ r0 r3 vd p1 p2 L g0 ne_r0_r3 ne_vd_r3 ha hL hp2 hp1 _ (0 : Int32) _ _ M X0 B0 BD BM S0 hM (by decide) rfl
theorem d2_0 : decode method_3_code 0 = .ok (.iload 5, 2) := by decide +kernel
theorem d2_2 : decode method_3_code 2 = .ok (.iload_n 2, 1) := by decide +kernel
theorem d2_3 : decode method_3_code 3 = .ok (.if_icmp .ge 57, 3) := by decide +kernel
theorem d2_6 : decode method_3_code 6 = .ok (.aload_n 0, 1) := by decide +kernel
theorem d2_7 : decode method_3_code 7 = .ok (.iload_n 1, 1) := by decide +kernel
theorem d2_8 : decode method_3_code 8 = .ok (.iload 5, 2) := by decide +kernel
theorem d2_10 : decode method_3_code 10 = .ok (.iadd, 1) := by decide +kernel
theorem d2_11 : decode method_3_code 11 = .ok (.baload, 1) := by decide +kernel
theorem d2_12 : decode method_3_code 12 = .ok (.sipush 255, 3) := by decide +kernel
theorem d2_15 : decode method_3_code 15 = .ok (.iand, 1) := by decide +kernel
theorem d2_16 : decode method_3_code 16 = .ok (.istore 6, 2) := by decide +kernel
theorem d2_18 : decode method_3_code 18 = .ok (.aload_n 3, 1) := by decide +kernel
theorem d2_19 : decode method_3_code 19 = .ok (.iconst 2, 1) := by decide +kernel
theorem d2_20 : decode method_3_code 20 = .ok (.iload 5, 2) := by decide +kernel
theorem d2_22 : decode method_3_code 22 = .ok (.imul, 1) := by decide +kernel
theorem d2_23 : decode method_3_code 23 = .ok (.baload, 1) := by decide +kernel
theorem d2_24 : decode method_3_code 24 = .ok (.iload 6, 2) := by decide +kernel
theorem d2_26 : decode method_3_code 26 = .ok (.bipush 16, 2) := by decide +kernel
theorem d2_28 : decode method_3_code 28 = .ok (.idiv, 1) := by decide +kernel
theorem d2_29 : decode method_3_code 29 = .ok (.invokestatic 19, 3) := by decide +kernel
theorem d2_32 : decode method_3_code 32 = .ok (.if_icmp .ne 26, 3) := by decide +kernel
theorem d2_35 : decode method_3_code 35 = .ok (.aload_n 3, 1) := by decide +kernel
theorem d2_36 : decode method_3_code 36 = .ok (.iconst 2, 1) := by decide +kernel
theorem d2_37 : decode method_3_code 37 = .ok (.iload 5, 2) := by decide +kernel
theorem d2_39 : decode method_3_code 39 = .ok (.imul, 1) := by decide +kernel
theorem d2_40 : decode method_3_code 40 = .ok (.iconst 1, 1) := by decide +kernel
theorem d2_41 : decode method_3_code 41 = .ok (.iadd, 1) := by decide +kernel
theorem d2_42 : decode method_3_code 42 = .ok (.baload, 1) := by decide +kernel
theorem d2_43 : decode method_3_code 43 = .ok (.iload 6, 2) := by decide +kernel
theorem d2_45 : decode method_3_code 45 = .ok (.bipush 16, 2) := by decide +kernel
theorem d2_47 : decode method_3_code 47 = .ok (.irem, 1) := by decide +kernel
theorem d2_48 : decode method_3_code 48 = .ok (.invokestatic 19, 3) := by decide +kernel
theorem d2_51 : decode method_3_code 51 = .ok (.if_icmp .ne 7, 3) := by decide +kernel
theorem d2_54 : decode method_3_code 54 = .ok (.iconst 1, 1) := by decide +kernel
theorem d2_55 : decode method_3_code 55 = .ok (.goto 4, 3) := by decide +kernel
theorem d2_58 : decode method_3_code 58 = .ok (.iconst 0, 1) := by decide +kernel
theorem d2_59 : decode method_3_code 59 = .ok (.ireturn, 1) := by decide +kernel
theorem d2_60 : decode method_3_code 60 = .ok (.aload_n 3, 1) := by decide +kernel
theorem d2_61 : decode method_3_code 61 = .ok (.iconst 2, 1) := by decide +kernel
theorem d2_62 : decode method_3_code 62 = .ok (.iload 5, 2) := by decide +kernel
theorem d2_64 : decode method_3_code 64 = .ok (.imul, 1) := by decide +kernel
theorem d2_65 : decode method_3_code 65 = .ok (.baload, 1) := by decide +kernel
theorem d2_66 : decode method_3_code 66 = .ok (.iload 4, 2) := by decide +kernel
theorem d2_68 : decode method_3_code 68 = .ok (.if_icmp .ne 20, 3) := by decide +kernel
theorem d2_71 : decode method_3_code 71 = .ok (.aload_n 3, 1) := by decide +kernel
theorem d2_72 : decode method_3_code 72 = .ok (.iconst 2, 1) := by decide +kernel
theorem d2_73 : decode method_3_code 73 = .ok (.iload 5, 2) := by decide +kernel
theorem d2_75 : decode method_3_code 75 = .ok (.imul, 1) := by decide +kernel
theorem d2_76 : decode method_3_code 76 = .ok (.iconst 1, 1) := by decide +kernel
theorem d2_77 : decode method_3_code 77 = .ok (.iadd, 1) := by decide +kernel
theorem d2_78 : decode method_3_code 78 = .ok (.baload, 1) := by decide +kernel
theorem d2_79 : decode method_3_code 79 = .ok (.iload 4, 2) := by decide +kernel
theorem d2_81 : decode method_3_code 81 = .ok (.if_icmp .ne 7, 3) := by decide +kernel
theorem d2_84 : decode method_3_code 84 = .ok (.iconst 1, 1) := by decide +kernel
theorem d2_85 : decode method_3_code 85 = .ok (.goto 4, 3) := by decide +kernel
theorem d2_88 : decode method_3_code 88 = .ok (.iconst 0, 1) := by decide +kernel
theorem d2_89 : decode method_3_code 89 = .ok (.ireturn, 1) := by decide +kernel
/-- what the body returns -/
def own_F2 (p1 : Int32) (p2 : Int32) (p4 : Int32) (p5 : Int32) (L : List Int32) (M : List Int32) : Int32 :=
  (if p5 < p2 then (if (M.getD (2 * p5).toNatClampNeg 0) = (own_F3 (((L.getD (p1 + p5).toNatClampNeg 0) &&& (255 : Int32)) / (16 : Int32))) then (if (M.getD (2 * p5 + 1).toNatClampNeg 0) = (own_F3 (((L.getD (p1 + p5).toNatClampNeg 0) &&& (255 : Int32)) % (16 : Int32))) then (1 : Int32) else (0 : Int32)) else (0 : Int32)) else (if (M.getD (2 * p5).toNatClampNeg 0) = p4 then (if (M.getD (2 * p5 + 1).toNatClampNeg 0) = p4 then (1 : Int32) else (0 : Int32)) else (0 : Int32)))
theorem own_ef2 (m : MethodId) (r0 : Addr) (p1 : Int32) (p2 : Int32) (r3 : Addr) (p4 : Int32) (p5 : Int32) : entryFrame m #[(.ref r0), (.int p1), (.int p2), (.ref r3), (.int p4), (.int p5)] 7 = mkF m 0 #[.val (.ref r0), .val (.int p1), .val (.int p2), .val (.ref r3), .val (.int p4), .val (.int p5), .unset] [] := by first | (simp [entryFrame, mkF, argsToLocals, Value.category]; done) | rfl
set_option maxRecDepth 65536 in
set_option maxHeartbeats 40000000 in
theorem own_c2 (l : Launch) (Z : State) (a0 : Array Value) (hw : ∀ d ∈ tables_1, d.before a0 Z = true) (h0 : Heap) (n0 : Nat) (Z0 : n0 ≤ h0.size) (r0 : Addr) (p1 : Int32) (p2 : Int32) (r3 : Addr) (p4 : Int32) (p5 : Int32) (L : List Int32) (M : List Int32) (B0 : own_B Z h0 r0 L) (BM : own_B Z h0 r3 M) (hj0 : ¬ (2 * p5) < 0) (hn0 : (2 * p5).toNatClampNeg < M.length) (hj1 : ¬ (2 * p5 + 1) < 0) (hn1 : (2 * p5 + 1).toNatClampNeg < M.length) (hix : p5 < p2 → ¬ (p1 + p5) < 0 ∧ (p1 + p5).toNatClampNeg < L.length) :
    own_M l (⟨"com/example/luoshu/luoshu/HexEncodePinLaw", "pair", "([BII[BBI)Z"⟩ : MethodName) method_3_code 7 (some .boolean) [] ({ frames := 1, cells := 0, slots := 0, locals := 13 } : Room) Z #[(.ref r0), (.int p1), (.int p2), (.ref r3), (.int p4), (.int p5)] h0 (own_Q n0 h0 [] (own_P (.int (own_F2 p1 p2 p4 p5 L M)) h0)) := by
  refine own_body (plainFor_of_name own_pn0) ?_
  intro p e s m below meth c T0 X0 hx hby hml hown hnm hret hlk hZ
  refine own_cast (own_ef2 m r0 p1 p2 r3 p4 p5) ?_
  refine own_st (f' := (mkF m 2 #[.val (.ref r0), .val (.int p1), .val (.int p2), .val (.ref r3), .val (.int p4), .val (.int p5), .unset] [(.int p5)])) (fun t k => XS.iload X0.her hx rfl (hb hby d2_0) rfl k) ?_
  refine own_st (f' := (mkF m 3 #[.val (.ref r0), .val (.int p1), .val (.int p2), .val (.ref r3), .val (.int p4), .val (.int p5), .unset] [(.int p2), (.int p5)])) (fun t k => XS.iloadN X0.her hx rfl (hb hby d2_2) rfl k) ?_
  by_cases hc6 : p5 < p2
  · refine own_st (f' := (mkF m 6 #[.val (.ref r0), .val (.int p1), .val (.int p2), .val (.ref r3), .val (.int p4), .val (.int p5), .unset] [])) (fun t k => XS.icmpNo X0.her hx rfl (hb hby d2_3) rfl (tlt hc6).2.1 k) ?_
    refine own_st (f' := (mkF m 7 #[.val (.ref r0), .val (.int p1), .val (.int p2), .val (.ref r3), .val (.int p4), .val (.int p5), .unset] [(.ref r0)])) (fun t k => XS.aloadN X0.her hx rfl (hb hby d2_6) rfl rfl k) ?_
    refine own_st (f' := (mkF m 8 #[.val (.ref r0), .val (.int p1), .val (.int p2), .val (.ref r3), .val (.int p4), .val (.int p5), .unset] [(.int p1), (.ref r0)])) (fun t k => XS.iloadN X0.her hx rfl (hb hby d2_7) rfl k) ?_
    refine own_st (f' := (mkF m 10 #[.val (.ref r0), .val (.int p1), .val (.int p2), .val (.ref r3), .val (.int p4), .val (.int p5), .unset] [(.int p5), (.int p1), (.ref r0)])) (fun t k => XS.iload X0.her hx rfl (hb hby d2_8) rfl k) ?_
    refine own_st (f' := (mkF m 11 #[.val (.ref r0), .val (.int p1), .val (.int p2), .val (.ref r3), .val (.int p4), .val (.int p5), .unset] [(.int (p1 + p5)), (.ref r0)])) (fun t k => XS.iadd X0.her hx rfl (hb hby d2_10) rfl k) ?_
    refine own_bload (v := (L.getD (p1 + p5).toNatClampNeg 0)) X0 hx hZ B0 (hix hc6).1 (own_gd _ _ (hix hc6).2) (hb hby d2_11) ?_
    refine own_st (f' := (mkF m 15 #[.val (.ref r0), .val (.int p1), .val (.int p2), .val (.ref r3), .val (.int p4), .val (.int p5), .unset] [(.int (255 : Int32)), (.int (L.getD (p1 + p5).toNatClampNeg 0))])) (fun t k => XS.sipush X0.her hx rfl (hb hby d2_12) k) ?_
    refine own_st (f' := (mkF m 16 #[.val (.ref r0), .val (.int p1), .val (.int p2), .val (.ref r3), .val (.int p4), .val (.int p5), .unset] [(.int ((L.getD (p1 + p5).toNatClampNeg 0) &&& (255 : Int32)))])) (fun t k => XS.iand X0.her hx rfl (hb hby d2_15) rfl k) ?_
    refine own_st (f' := (mkF m 18 #[.val (.ref r0), .val (.int p1), .val (.int p2), .val (.ref r3), .val (.int p4), .val (.int p5), .val (.int ((L.getD (p1 + p5).toNatClampNeg 0) &&& (255 : Int32)))] [])) (fun t k => XS.istore X0.her hx rfl (hb hby d2_16) rfl (l' := #[.val (.ref r0), .val (.int p1), .val (.int p2), .val (.ref r3), .val (.int p4), .val (.int p5), .val (.int ((L.getD (p1 + p5).toNatClampNeg 0) &&& (255 : Int32)))]) rfl k) ?_
    refine own_st (f' := (mkF m 19 #[.val (.ref r0), .val (.int p1), .val (.int p2), .val (.ref r3), .val (.int p4), .val (.int p5), .val (.int ((L.getD (p1 + p5).toNatClampNeg 0) &&& (255 : Int32)))] [(.ref r3)])) (fun t k => XS.aloadN X0.her hx rfl (hb hby d2_18) rfl rfl k) ?_
    refine own_st (f' := (mkF m 20 #[.val (.ref r0), .val (.int p1), .val (.int p2), .val (.ref r3), .val (.int p4), .val (.int p5), .val (.int ((L.getD (p1 + p5).toNatClampNeg 0) &&& (255 : Int32)))] [(.int (2 : Int32)), (.ref r3)])) (fun t k => XS.iconst X0.her hx rfl (hb hby d2_19) k) ?_
    refine own_st (f' := (mkF m 22 #[.val (.ref r0), .val (.int p1), .val (.int p2), .val (.ref r3), .val (.int p4), .val (.int p5), .val (.int ((L.getD (p1 + p5).toNatClampNeg 0) &&& (255 : Int32)))] [(.int p5), (.int (2 : Int32)), (.ref r3)])) (fun t k => XS.iload X0.her hx rfl (hb hby d2_20) rfl k) ?_
    refine own_st (f' := (mkF m 23 #[.val (.ref r0), .val (.int p1), .val (.int p2), .val (.ref r3), .val (.int p4), .val (.int p5), .val (.int ((L.getD (p1 + p5).toNatClampNeg 0) &&& (255 : Int32)))] [(.int ((2 : Int32) * p5)), (.ref r3)])) (fun t k => XS.imul X0.her hx rfl (hb hby d2_22) rfl k) ?_
    refine own_bload (v := (M.getD (2 * p5).toNatClampNeg 0)) X0 hx hZ BM hj0 (own_gd _ _ hn0) (hb hby d2_23) ?_
    refine own_st (f' := (mkF m 26 #[.val (.ref r0), .val (.int p1), .val (.int p2), .val (.ref r3), .val (.int p4), .val (.int p5), .val (.int ((L.getD (p1 + p5).toNatClampNeg 0) &&& (255 : Int32)))] [(.int ((L.getD (p1 + p5).toNatClampNeg 0) &&& (255 : Int32))), (.int (M.getD (2 * p5).toNatClampNeg 0))])) (fun t k => XS.iload X0.her hx rfl (hb hby d2_24) rfl k) ?_
    refine own_st (f' := (mkF m 28 #[.val (.ref r0), .val (.int p1), .val (.int p2), .val (.ref r3), .val (.int p4), .val (.int p5), .val (.int ((L.getD (p1 + p5).toNatClampNeg 0) &&& (255 : Int32)))] [(.int (16 : Int32)), (.int ((L.getD (p1 + p5).toNatClampNeg 0) &&& (255 : Int32))), (.int (M.getD (2 * p5).toNatClampNeg 0))])) (fun t k => XS.bipush X0.her hx rfl (hb hby d2_26) k) ?_
    refine own_st (f' := (mkF m 29 #[.val (.ref r0), .val (.int p1), .val (.int p2), .val (.ref r3), .val (.int p4), .val (.int p5), .val (.int ((L.getD (p1 + p5).toNatClampNeg 0) &&& (255 : Int32)))] [(.int (((L.getD (p1 + p5).toNatClampNeg 0) &&& (255 : Int32)) / (16 : Int32))), (.int (M.getD (2 * p5).toNatClampNeg 0))])) (fun t k => XS.idiv X0.her hx rfl (hb hby d2_28) rfl (by decide) k) ?_
    refine own_callSP (y := (⟨"com/example/luoshu/luoshu/HexEncodePinLaw", "digit", "(I)B"⟩ : MethodName)) (W := 1) [(.int (((L.getD (p1 + p5).toNatClampNeg 0) &&& (255 : Int32)) / (16 : Int32)))] X0 hx hZ hown (own_w11 hw) (own_w12 hw) (own_w7 hw) (own_w13 hw) (by decide) (own_c3 l Z a0 hw h0 n0 Z0 (((L.getD (p1 + p5).toNatClampNeg 0) &&& (255 : Int32)) / (16 : Int32))) (by decide) (by decide) (by decide) (by decide) (by rw [hml]; rfl) own_pd0 rfl rfl (Nat.le_of_eq rfl) (hb hby d2_29) ?_
    intro T7 X7
    show own_G p e below _ T7 (mkF m 32 #[.val (.ref r0), .val (.int p1), .val (.int p2), .val (.ref r3), .val (.int p4), .val (.int p5), .val (.int ((L.getD (p1 + p5).toNatClampNeg 0) &&& (255 : Int32)))] [(.int (own_F3 (((L.getD (p1 + p5).toNatClampNeg 0) &&& (255 : Int32)) / (16 : Int32)))), (.int (M.getD (2 * p5).toNatClampNeg 0))])
    by_cases hc8 : (M.getD (2 * p5).toNatClampNeg 0) = (own_F3 (((L.getD (p1 + p5).toNatClampNeg 0) &&& (255 : Int32)) / (16 : Int32)))
    · refine own_st (f' := (mkF m 35 #[.val (.ref r0), .val (.int p1), .val (.int p2), .val (.ref r3), .val (.int p4), .val (.int p5), .val (.int ((L.getD (p1 + p5).toNatClampNeg 0) &&& (255 : Int32)))] [])) (fun t k => XS.icmpNo X7.her hx rfl (hb hby d2_32) rfl (teq hc8).2 k) ?_
      refine own_st (f' := (mkF m 36 #[.val (.ref r0), .val (.int p1), .val (.int p2), .val (.ref r3), .val (.int p4), .val (.int p5), .val (.int ((L.getD (p1 + p5).toNatClampNeg 0) &&& (255 : Int32)))] [(.ref r3)])) (fun t k => XS.aloadN X7.her hx rfl (hb hby d2_35) rfl rfl k) ?_
      refine own_st (f' := (mkF m 37 #[.val (.ref r0), .val (.int p1), .val (.int p2), .val (.ref r3), .val (.int p4), .val (.int p5), .val (.int ((L.getD (p1 + p5).toNatClampNeg 0) &&& (255 : Int32)))] [(.int (2 : Int32)), (.ref r3)])) (fun t k => XS.iconst X7.her hx rfl (hb hby d2_36) k) ?_
      refine own_st (f' := (mkF m 39 #[.val (.ref r0), .val (.int p1), .val (.int p2), .val (.ref r3), .val (.int p4), .val (.int p5), .val (.int ((L.getD (p1 + p5).toNatClampNeg 0) &&& (255 : Int32)))] [(.int p5), (.int (2 : Int32)), (.ref r3)])) (fun t k => XS.iload X7.her hx rfl (hb hby d2_37) rfl k) ?_
      refine own_st (f' := (mkF m 40 #[.val (.ref r0), .val (.int p1), .val (.int p2), .val (.ref r3), .val (.int p4), .val (.int p5), .val (.int ((L.getD (p1 + p5).toNatClampNeg 0) &&& (255 : Int32)))] [(.int ((2 : Int32) * p5)), (.ref r3)])) (fun t k => XS.imul X7.her hx rfl (hb hby d2_39) rfl k) ?_
      refine own_st (f' := (mkF m 41 #[.val (.ref r0), .val (.int p1), .val (.int p2), .val (.ref r3), .val (.int p4), .val (.int p5), .val (.int ((L.getD (p1 + p5).toNatClampNeg 0) &&& (255 : Int32)))] [(.int (1 : Int32)), (.int ((2 : Int32) * p5)), (.ref r3)])) (fun t k => XS.iconst X7.her hx rfl (hb hby d2_40) k) ?_
      refine own_st (f' := (mkF m 42 #[.val (.ref r0), .val (.int p1), .val (.int p2), .val (.ref r3), .val (.int p4), .val (.int p5), .val (.int ((L.getD (p1 + p5).toNatClampNeg 0) &&& (255 : Int32)))] [(.int (((2 : Int32) * p5) + (1 : Int32))), (.ref r3)])) (fun t k => XS.iadd X7.her hx rfl (hb hby d2_41) rfl k) ?_
      refine own_bload (v := (M.getD (2 * p5 + 1).toNatClampNeg 0)) X7 hx hZ BM hj1 (own_gd _ _ hn1) (hb hby d2_42) ?_
      refine own_st (f' := (mkF m 45 #[.val (.ref r0), .val (.int p1), .val (.int p2), .val (.ref r3), .val (.int p4), .val (.int p5), .val (.int ((L.getD (p1 + p5).toNatClampNeg 0) &&& (255 : Int32)))] [(.int ((L.getD (p1 + p5).toNatClampNeg 0) &&& (255 : Int32))), (.int (M.getD (2 * p5 + 1).toNatClampNeg 0))])) (fun t k => XS.iload X7.her hx rfl (hb hby d2_43) rfl k) ?_
      refine own_st (f' := (mkF m 47 #[.val (.ref r0), .val (.int p1), .val (.int p2), .val (.ref r3), .val (.int p4), .val (.int p5), .val (.int ((L.getD (p1 + p5).toNatClampNeg 0) &&& (255 : Int32)))] [(.int (16 : Int32)), (.int ((L.getD (p1 + p5).toNatClampNeg 0) &&& (255 : Int32))), (.int (M.getD (2 * p5 + 1).toNatClampNeg 0))])) (fun t k => XS.bipush X7.her hx rfl (hb hby d2_45) k) ?_
      refine own_irem X7 hx (hb hby d2_47) (by decide) ?_
      refine own_callSP (y := (⟨"com/example/luoshu/luoshu/HexEncodePinLaw", "digit", "(I)B"⟩ : MethodName)) (W := 1) [(.int (((L.getD (p1 + p5).toNatClampNeg 0) &&& (255 : Int32)) % (16 : Int32)))] X7 hx hZ hown (own_w11 hw) (own_w12 hw) (own_w7 hw) (own_w13 hw) (by decide) (own_c3 l Z a0 hw h0 n0 Z0 (((L.getD (p1 + p5).toNatClampNeg 0) &&& (255 : Int32)) % (16 : Int32))) (by decide) (by decide) (by decide) (by decide) (by rw [hml]; rfl) own_pd0 rfl rfl (Nat.le_of_eq rfl) (hb hby d2_48) ?_
      intro T9 X9
      show own_G p e below _ T9 (mkF m 51 #[.val (.ref r0), .val (.int p1), .val (.int p2), .val (.ref r3), .val (.int p4), .val (.int p5), .val (.int ((L.getD (p1 + p5).toNatClampNeg 0) &&& (255 : Int32)))] [(.int (own_F3 (((L.getD (p1 + p5).toNatClampNeg 0) &&& (255 : Int32)) % (16 : Int32)))), (.int (M.getD (2 * p5 + 1).toNatClampNeg 0))])
      by_cases hc10 : (M.getD (2 * p5 + 1).toNatClampNeg 0) = (own_F3 (((L.getD (p1 + p5).toNatClampNeg 0) &&& (255 : Int32)) % (16 : Int32)))
      · refine own_st (f' := (mkF m 54 #[.val (.ref r0), .val (.int p1), .val (.int p2), .val (.ref r3), .val (.int p4), .val (.int p5), .val (.int ((L.getD (p1 + p5).toNatClampNeg 0) &&& (255 : Int32)))] [])) (fun t k => XS.icmpNo X9.her hx rfl (hb hby d2_51) rfl (teq hc10).2 k) ?_
        refine own_st (f' := (mkF m 55 #[.val (.ref r0), .val (.int p1), .val (.int p2), .val (.ref r3), .val (.int p4), .val (.int p5), .val (.int ((L.getD (p1 + p5).toNatClampNeg 0) &&& (255 : Int32)))] [(.int (1 : Int32))])) (fun t k => XS.iconst X9.her hx rfl (hb hby d2_54) k) ?_
        refine own_st (f' := (mkF m 59 #[.val (.ref r0), .val (.int p1), .val (.int p2), .val (.ref r3), .val (.int p4), .val (.int p5), .val (.int ((L.getD (p1 + p5).toNatClampNeg 0) &&& (255 : Int32)))] [(.int (1 : Int32))])) (fun t k => XS.goto X9.her hx rfl (pc0 := 55) (pc' := 59) rfl (hb hby d2_55) (by decide) (by decide) k) ?_
        refine own_retN (t := .boolean) X9 hx hret hlk (by simp) (hb hby d2_59) (by first | decide | omega) (by first | decide | omega) ?_
        exact ⟨congrArg (fun q => some (Value.int q)) (by unfold own_F2; rw [if_pos hc6, if_pos hc8, if_pos hc10]; first | done | exact by decide), rfl⟩
      · refine own_st (f' := (mkF m 58 #[.val (.ref r0), .val (.int p1), .val (.int p2), .val (.ref r3), .val (.int p4), .val (.int p5), .val (.int ((L.getD (p1 + p5).toNatClampNeg 0) &&& (255 : Int32)))] [])) (fun t k => XS.icmpYes X9.her hx rfl (pc0 := 51) (pc' := 58) rfl (hb hby d2_51) rfl (feq hc10).2 (by decide) (by decide) k) ?_
        refine own_st (f' := (mkF m 59 #[.val (.ref r0), .val (.int p1), .val (.int p2), .val (.ref r3), .val (.int p4), .val (.int p5), .val (.int ((L.getD (p1 + p5).toNatClampNeg 0) &&& (255 : Int32)))] [(.int (0 : Int32))])) (fun t k => XS.iconst X9.her hx rfl (hb hby d2_58) k) ?_
        refine own_retN (t := .boolean) X9 hx hret hlk (by simp) (hb hby d2_59) (by first | decide | omega) (by first | decide | omega) ?_
        exact ⟨congrArg (fun q => some (Value.int q)) (by unfold own_F2; rw [if_pos hc6, if_pos hc8, if_neg hc10]; first | done | exact by decide), rfl⟩
    · refine own_st (f' := (mkF m 58 #[.val (.ref r0), .val (.int p1), .val (.int p2), .val (.ref r3), .val (.int p4), .val (.int p5), .val (.int ((L.getD (p1 + p5).toNatClampNeg 0) &&& (255 : Int32)))] [])) (fun t k => XS.icmpYes X7.her hx rfl (pc0 := 32) (pc' := 58) rfl (hb hby d2_32) rfl (feq hc8).2 (by decide) (by decide) k) ?_
      refine own_st (f' := (mkF m 59 #[.val (.ref r0), .val (.int p1), .val (.int p2), .val (.ref r3), .val (.int p4), .val (.int p5), .val (.int ((L.getD (p1 + p5).toNatClampNeg 0) &&& (255 : Int32)))] [(.int (0 : Int32))])) (fun t k => XS.iconst X7.her hx rfl (hb hby d2_58) k) ?_
      refine own_retN (t := .boolean) X7 hx hret hlk (by simp) (hb hby d2_59) (by first | decide | omega) (by first | decide | omega) ?_
      exact ⟨congrArg (fun q => some (Value.int q)) (by unfold own_F2; rw [if_pos hc6, if_neg hc8]; first | done | exact by decide), rfl⟩
  · refine own_st (f' := (mkF m 60 #[.val (.ref r0), .val (.int p1), .val (.int p2), .val (.ref r3), .val (.int p4), .val (.int p5), .unset] [])) (fun t k => XS.icmpYes X0.her hx rfl (pc0 := 3) (pc' := 60) rfl (hb hby d2_3) rfl (flt hc6).2.1 (by decide) (by decide) k) ?_
    refine own_st (f' := (mkF m 61 #[.val (.ref r0), .val (.int p1), .val (.int p2), .val (.ref r3), .val (.int p4), .val (.int p5), .unset] [(.ref r3)])) (fun t k => XS.aloadN X0.her hx rfl (hb hby d2_60) rfl rfl k) ?_
    refine own_st (f' := (mkF m 62 #[.val (.ref r0), .val (.int p1), .val (.int p2), .val (.ref r3), .val (.int p4), .val (.int p5), .unset] [(.int (2 : Int32)), (.ref r3)])) (fun t k => XS.iconst X0.her hx rfl (hb hby d2_61) k) ?_
    refine own_st (f' := (mkF m 64 #[.val (.ref r0), .val (.int p1), .val (.int p2), .val (.ref r3), .val (.int p4), .val (.int p5), .unset] [(.int p5), (.int (2 : Int32)), (.ref r3)])) (fun t k => XS.iload X0.her hx rfl (hb hby d2_62) rfl k) ?_
    refine own_st (f' := (mkF m 65 #[.val (.ref r0), .val (.int p1), .val (.int p2), .val (.ref r3), .val (.int p4), .val (.int p5), .unset] [(.int ((2 : Int32) * p5)), (.ref r3)])) (fun t k => XS.imul X0.her hx rfl (hb hby d2_64) rfl k) ?_
    refine own_bload (v := (M.getD (2 * p5).toNatClampNeg 0)) X0 hx hZ BM hj0 (own_gd _ _ hn0) (hb hby d2_65) ?_
    refine own_st (f' := (mkF m 68 #[.val (.ref r0), .val (.int p1), .val (.int p2), .val (.ref r3), .val (.int p4), .val (.int p5), .unset] [(.int p4), (.int (M.getD (2 * p5).toNatClampNeg 0))])) (fun t k => XS.iload X0.her hx rfl (hb hby d2_66) rfl k) ?_
    by_cases hc11 : (M.getD (2 * p5).toNatClampNeg 0) = p4
    · refine own_st (f' := (mkF m 71 #[.val (.ref r0), .val (.int p1), .val (.int p2), .val (.ref r3), .val (.int p4), .val (.int p5), .unset] [])) (fun t k => XS.icmpNo X0.her hx rfl (hb hby d2_68) rfl (teq hc11).2 k) ?_
      refine own_st (f' := (mkF m 72 #[.val (.ref r0), .val (.int p1), .val (.int p2), .val (.ref r3), .val (.int p4), .val (.int p5), .unset] [(.ref r3)])) (fun t k => XS.aloadN X0.her hx rfl (hb hby d2_71) rfl rfl k) ?_
      refine own_st (f' := (mkF m 73 #[.val (.ref r0), .val (.int p1), .val (.int p2), .val (.ref r3), .val (.int p4), .val (.int p5), .unset] [(.int (2 : Int32)), (.ref r3)])) (fun t k => XS.iconst X0.her hx rfl (hb hby d2_72) k) ?_
      refine own_st (f' := (mkF m 75 #[.val (.ref r0), .val (.int p1), .val (.int p2), .val (.ref r3), .val (.int p4), .val (.int p5), .unset] [(.int p5), (.int (2 : Int32)), (.ref r3)])) (fun t k => XS.iload X0.her hx rfl (hb hby d2_73) rfl k) ?_
      refine own_st (f' := (mkF m 76 #[.val (.ref r0), .val (.int p1), .val (.int p2), .val (.ref r3), .val (.int p4), .val (.int p5), .unset] [(.int ((2 : Int32) * p5)), (.ref r3)])) (fun t k => XS.imul X0.her hx rfl (hb hby d2_75) rfl k) ?_
      refine own_st (f' := (mkF m 77 #[.val (.ref r0), .val (.int p1), .val (.int p2), .val (.ref r3), .val (.int p4), .val (.int p5), .unset] [(.int (1 : Int32)), (.int ((2 : Int32) * p5)), (.ref r3)])) (fun t k => XS.iconst X0.her hx rfl (hb hby d2_76) k) ?_
      refine own_st (f' := (mkF m 78 #[.val (.ref r0), .val (.int p1), .val (.int p2), .val (.ref r3), .val (.int p4), .val (.int p5), .unset] [(.int (((2 : Int32) * p5) + (1 : Int32))), (.ref r3)])) (fun t k => XS.iadd X0.her hx rfl (hb hby d2_77) rfl k) ?_
      refine own_bload (v := (M.getD (2 * p5 + 1).toNatClampNeg 0)) X0 hx hZ BM hj1 (own_gd _ _ hn1) (hb hby d2_78) ?_
      refine own_st (f' := (mkF m 81 #[.val (.ref r0), .val (.int p1), .val (.int p2), .val (.ref r3), .val (.int p4), .val (.int p5), .unset] [(.int p4), (.int (M.getD (2 * p5 + 1).toNatClampNeg 0))])) (fun t k => XS.iload X0.her hx rfl (hb hby d2_79) rfl k) ?_
      by_cases hc12 : (M.getD (2 * p5 + 1).toNatClampNeg 0) = p4
      · refine own_st (f' := (mkF m 84 #[.val (.ref r0), .val (.int p1), .val (.int p2), .val (.ref r3), .val (.int p4), .val (.int p5), .unset] [])) (fun t k => XS.icmpNo X0.her hx rfl (hb hby d2_81) rfl (teq hc12).2 k) ?_
        refine own_st (f' := (mkF m 85 #[.val (.ref r0), .val (.int p1), .val (.int p2), .val (.ref r3), .val (.int p4), .val (.int p5), .unset] [(.int (1 : Int32))])) (fun t k => XS.iconst X0.her hx rfl (hb hby d2_84) k) ?_
        refine own_st (f' := (mkF m 89 #[.val (.ref r0), .val (.int p1), .val (.int p2), .val (.ref r3), .val (.int p4), .val (.int p5), .unset] [(.int (1 : Int32))])) (fun t k => XS.goto X0.her hx rfl (pc0 := 85) (pc' := 89) rfl (hb hby d2_85) (by decide) (by decide) k) ?_
        refine own_retN (t := .boolean) X0 hx hret hlk (by simp) (hb hby d2_89) (by first | decide | omega) (by first | decide | omega) ?_
        exact ⟨congrArg (fun q => some (Value.int q)) (by unfold own_F2; rw [if_neg hc6, if_pos hc11, if_pos hc12]; first | done | exact by decide), rfl⟩
      · refine own_st (f' := (mkF m 88 #[.val (.ref r0), .val (.int p1), .val (.int p2), .val (.ref r3), .val (.int p4), .val (.int p5), .unset] [])) (fun t k => XS.icmpYes X0.her hx rfl (pc0 := 81) (pc' := 88) rfl (hb hby d2_81) rfl (feq hc12).2 (by decide) (by decide) k) ?_
        refine own_st (f' := (mkF m 89 #[.val (.ref r0), .val (.int p1), .val (.int p2), .val (.ref r3), .val (.int p4), .val (.int p5), .unset] [(.int (0 : Int32))])) (fun t k => XS.iconst X0.her hx rfl (hb hby d2_88) k) ?_
        refine own_retN (t := .boolean) X0 hx hret hlk (by simp) (hb hby d2_89) (by first | decide | omega) (by first | decide | omega) ?_
        exact ⟨congrArg (fun q => some (Value.int q)) (by unfold own_F2; rw [if_neg hc6, if_pos hc11, if_neg hc12]; first | done | exact by decide), rfl⟩
    · refine own_st (f' := (mkF m 88 #[.val (.ref r0), .val (.int p1), .val (.int p2), .val (.ref r3), .val (.int p4), .val (.int p5), .unset] [])) (fun t k => XS.icmpYes X0.her hx rfl (pc0 := 68) (pc' := 88) rfl (hb hby d2_68) rfl (feq hc11).2 (by decide) (by decide) k) ?_
      refine own_st (f' := (mkF m 89 #[.val (.ref r0), .val (.int p1), .val (.int p2), .val (.ref r3), .val (.int p4), .val (.int p5), .unset] [(.int (0 : Int32))])) (fun t k => XS.iconst X0.her hx rfl (hb hby d2_88) k) ?_
      refine own_retN (t := .boolean) X0 hx hret hlk (by simp) (hb hby d2_89) (by first | decide | omega) (by first | decide | omega) ?_
      exact ⟨congrArg (fun q => some (Value.int q)) (by unfold own_F2; rw [if_neg hc6, if_neg hc11]; first | done | exact by decide), rfl⟩
def own_t0_36 (p0 : Int32) (p1 : Int32) (p2 : Int32) : Int32 := (p1 &&& (3 : Int32))
def own_t0_49 (p0 : Int32) (p1 : Int32) (p2 : Int32) : Int32 := ((((p1.toUInt32 >>> ((2 : Int32) &&& 31).toUInt32).toInt32) &&& (7 : Int32)) % ((5 : Int32) - (own_t0_36 p0 p1 p2)))
def own_t0_53 (p0 : Int32) (p1 : Int32) (p2 : Int32) : Int32 := (p2.toInt8.toInt32)
def own_L (p0 p1 p2 : Int32) : List Int32 := [(p0.toInt8.toInt32), ((p0 >>> ((8 : Int32) &&& 31)).toInt8.toInt32), ((p0 >>> ((16 : Int32) &&& 31)).toInt8.toInt32), ((p0 >>> ((24 : Int32) &&& 31)).toInt8.toInt32)]
def own_MM (p0 p1 p2 : Int32) : List Int32 := [(own_t0_53 p0 p1 p2), (own_t0_53 p0 p1 p2), (own_t0_53 p0 p1 p2), (own_t0_53 p0 p1 p2), (own_t0_53 p0 p1 p2), (own_t0_53 p0 p1 p2), (own_t0_53 p0 p1 p2), (own_t0_53 p0 p1 p2), (own_t0_53 p0 p1 p2), (own_t0_53 p0 p1 p2)]
theorem own_o (p0 p1 p2 : Int32) : 0 ≤ (own_t0_36 p0 p1 p2).toInt ∧ (own_t0_36 p0 p1 p2).toInt ≤ 3 := by
  have m1 : (p1 &&& 3).toInt = p1.toInt % 2 ^ 2 := Jvm.Kit.i32_mask p1 3 (by decide) (by decide)
  have e : (own_t0_36 p0 p1 p2).toInt = (p1 &&& 3).toInt := rfl
  omega
theorem own_o4 (p0 p1 p2 : Int32) : (own_t0_36 p0 p1 p2).toInt ≤ 4 := by
  have := own_o p0 p1 p2
  omega
theorem own_5 (p0 p1 p2 : Int32) : ((5 : Int32) - own_t0_36 p0 p1 p2).toInt = 5 - (own_t0_36 p0 p1 p2).toInt := by
  have := own_o p0 p1 p2
  have z : (5 : Int32).toInt = 5 := rfl
  rw [Jvm.Kit.i32_sub (by omega) (by omega), z]
theorem own_nz (p0 p1 p2 : Int32) : ((5 : Int32) - own_t0_36 p0 p1 p2) ≠ 0 := by
  intro h
  have := own_o p0 p1 p2
  have q := own_5 p0 p1 p2
  rw [h, show (0 : Int32).toInt = 0 from rfl] at q
  omega
theorem own_n (p0 p1 p2 : Int32) : 0 ≤ (own_t0_49 p0 p1 p2).toInt ∧ (own_t0_49 p0 p1 p2).toInt < 5 - (own_t0_36 p0 p1 p2).toInt := by
  have := own_o p0 p1 p2
  have q := own_5 p0 p1 p2
  have m : ((((p1.toUInt32 >>> ((2 : Int32) &&& 31).toUInt32).toInt32)) &&& 7).toInt = (((p1.toUInt32 >>> ((2 : Int32) &&& 31).toUInt32).toInt32)).toInt % 2 ^ 3 := Jvm.Kit.i32_mask _ 7 (by decide) (by decide)
  have r : (own_t0_49 p0 p1 p2).toInt = ((((p1.toUInt32 >>> ((2 : Int32) &&& 31).toUInt32).toInt32)) &&& 7).toInt % ((5 : Int32) - own_t0_36 p0 p1 p2).toInt := by
    show (((((p1.toUInt32 >>> ((2 : Int32) &&& 31).toUInt32).toInt32)) &&& 7) % ((5 : Int32) - own_t0_36 p0 p1 p2)).toInt = _
    exact Jvm.Kit.i32_rem_nonneg (by omega)
  rw [q] at r
  have d : (5 - (own_t0_36 p0 p1 p2).toInt) ≠ 0 := by omega
  have a1 := Int.emod_nonneg ((((p1.toUInt32 >>> ((2 : Int32) &&& 31).toUInt32).toInt32)) &&& 7).toInt d
  have a2 := Int.emod_lt_of_pos ((((p1.toUInt32 >>> ((2 : Int32) &&& 31).toUInt32).toInt32)) &&& 7).toInt (by omega : 0 < 5 - (own_t0_36 p0 p1 p2).toInt)
  omega
theorem own_n4 (p0 p1 p2 : Int32) : (own_t0_49 p0 p1 p2).toInt ≤ 4 := by
  have := own_n p0 p1 p2
  have := own_o p0 p1 p2
  omega
theorem own_ol (p0 p1 p2 : Int32) : (own_t0_36 p0 p1 p2).toInt + (own_t0_49 p0 p1 p2).toInt ≤ ((4 : Nat) : Int) := by
  have := own_n p0 p1 p2
  have := own_o p0 p1 p2
  omega
theorem own_one {x : Int32} (h : x = 1) : ¬ x = 0 := by rw [h]; decide
theorem own_four (x : Int32) (k : Nat) (hk : k < 5) (h : x.toInt = (k : Int)) : x = Int32.ofNat k := by
  apply Int32.toInt_inj.mp
  rw [Int32.toInt_ofNat_of_lt (by omega), h]
theorem own_ix (p0 p1 p2 : Int32) (i : Fin 4) : Int32.ofNat i.val < own_t0_49 p0 p1 p2 → ¬ (own_t0_36 p0 p1 p2 + Int32.ofNat i.val) < 0 ∧ (own_t0_36 p0 p1 p2 + Int32.ofNat i.val).toNatClampNeg < 4 := by
  intro h
  have := own_n p0 p1 p2
  have := own_o p0 p1 p2
  have hi := i.isLt
  have ei : (Int32.ofNat i.val).toInt = (i.val : Int) := Int32.toInt_ofNat_of_lt (by omega)
  rw [Int32.lt_iff_toInt_lt, ei] at h
  have e : (own_t0_36 p0 p1 p2 + Int32.ofNat i.val).toInt = (own_t0_36 p0 p1 p2).toInt + i.val := by rw [Jvm.Kit.i32_add (by omega) (by omega), ei]
  have f : (own_t0_36 p0 p1 p2 + Int32.ofNat i.val).toNatClampNeg = (own_t0_36 p0 p1 p2 + Int32.ofNat i.val).toInt.toNat := rfl
  rw [Int32.lt_iff_toInt_lt, show (0 : Int32).toInt = 0 from rfl, f, e]
  omega
theorem own_d16 : ∀ k : Fin 16, own_dg (Int32.ofNat k.val) = own_F3 (Int32.ofNat k.val) := by decide +kernel
theorem own_dF (x : Int32) (h0 : 0 ≤ x.toInt) (h1 : x.toInt < 16) : own_dg x = own_F3 x := by
  have e : x = Int32.ofNat x.toInt.toNat := by
    apply Int32.toInt_inj.mp
    rw [Int32.toInt_ofNat_of_lt (by omega)]
    omega
  rw [e]
  exact own_d16 ⟨x.toInt.toNat, by omega⟩
theorem own_hiF (b : Int32) : own_hi b = own_F3 ((b &&& 255) / 16) := by
  have m : (b &&& 255).toInt = b.toInt % 2 ^ 8 := Jvm.Kit.i32_mask b 255 (by decide) (by decide)
  have z : (16 : Int32).toInt = 16 := rfl
  have d : ((b &&& 255) / 16).toInt = (b &&& 255).toInt / 16 := by rw [Jvm.Kit.i32_div (fun h => absurd h.2 (by decide)), z, Int.tdiv_eq_ediv_of_nonneg (by omega)]
  have u := own_unat b
  have s : ((b.toUInt32 >>> ((4 : Int32) &&& 31).toUInt32).toInt32).toBitVec.toNat = b.toBitVec.toNat / 2 ^ 4 := by
    simp only [UInt32.toBitVec_toInt32, UInt32.toBitVec_shiftRight, Int32.toBitVec_toUInt32]
    simp [BitVec.toNat_ushiftRight, Nat.shiftRight_eq_div_pow]
  have u2 := own_unat ((b.toUInt32 >>> ((4 : Int32) &&& 31).toUInt32).toInt32)
  have m2 : (((b.toUInt32 >>> ((4 : Int32) &&& 31).toUInt32).toInt32) &&& 15).toInt = ((b.toUInt32 >>> ((4 : Int32) &&& 31).toUInt32).toInt32).toInt % 2 ^ 4 := Jvm.Kit.i32_mask _ 15 (by decide) (by decide)
  have e : (((b.toUInt32 >>> ((4 : Int32) &&& 31).toUInt32).toInt32) &&& 15) = (b &&& 255) / 16 := by
    apply Int32.toInt_inj.mp
    omega
  unfold own_hi
  rw [e]
  exact own_dF _ (by omega) (by omega)
theorem own_loF (b : Int32) : own_lo b = own_F3 ((b &&& 255) % 16) := by
  have m : (b &&& 255).toInt = b.toInt % 2 ^ 8 := Jvm.Kit.i32_mask b 255 (by decide) (by decide)
  have z : (16 : Int32).toInt = 16 := rfl
  have d : ((b &&& 255) % 16).toInt = (b &&& 255).toInt % 16 := by rw [Jvm.Kit.i32_rem_nonneg (by omega), z]
  have m2 : (b &&& 15).toInt = b.toInt % 2 ^ 4 := Jvm.Kit.i32_mask b 15 (by decide) (by decide)
  have e : (b &&& 15) = (b &&& 255) % 16 := by
    apply Int32.toInt_inj.mp
    omega
  unfold own_lo
  rw [e]
  exact own_dF _ (by omega) (by omega)
theorem own_cases (p0 p1 p2 : Int32) : ∃ a n : Nat, a < 4 ∧ n < 5 ∧ own_t0_36 p0 p1 p2 = Int32.ofNat a ∧ own_t0_49 p0 p1 p2 = Int32.ofNat n ∧ a + n ≤ 4 := by
  have h1 := own_n p0 p1 p2
  have h2 := own_o p0 p1 p2
  refine ⟨(own_t0_36 p0 p1 p2).toInt.toNat, (own_t0_49 p0 p1 p2).toInt.toNat, by omega, by omega, own_four (own_t0_36 p0 p1 p2) (own_t0_36 p0 p1 p2).toInt.toNat (by omega) (by omega), own_four (own_t0_49 p0 p1 p2) (own_t0_49 p0 p1 p2).toInt.toNat (by omega) (by omega), by omega⟩
theorem own_in (p1 p2 p4 p5 : Int32) (L M : List Int32) (h1 : p5 < p2) (h2 : (M.getD (2 * p5).toNatClampNeg 0) = own_F3 (((L.getD (p1 + p5).toNatClampNeg 0) &&& 255) / 16)) (h3 : (M.getD (2 * p5 + 1).toNatClampNeg 0) = own_F3 (((L.getD (p1 + p5).toNatClampNeg 0) &&& 255) % 16)) : own_F2 p1 p2 p4 p5 L M = 1 := by
  unfold own_F2
  rw [if_pos h1, if_pos h2, if_pos h3]
theorem own_nin (p1 p2 p4 p5 : Int32) (L M : List Int32) (h1 : ¬ p5 < p2) (h2 : (M.getD (2 * p5).toNatClampNeg 0) = p4) (h3 : (M.getD (2 * p5 + 1).toNatClampNeg 0) = p4) : own_F2 p1 p2 p4 p5 L M = 1 := by
  unfold own_F2
  rw [if_neg h1, if_pos h2, if_pos h3]
/-- the text behind encode, over any bytes and any text of ten -/
theorem own_pairs (e0 e1 e2 e3 t : Int32) (a n i : Nat) (ha : a < 4) (hn : n < 5) (hi : i < 4) (h : a + n ≤ 4) : own_F2 (Int32.ofNat a) (Int32.ofNat n) t (Int32.ofNat i) [e0, e1, e2, e3] (own_enc [e0, e1, e2, e3] (Int32.ofNat a) ((((Int32.ofNat n)).toInt - (0 : Int32).toInt).toNat) (0 : Int32) [t, t, t, t, t, t, t, t, t, t]) = 1 := by
  rcases a with _ | _ | _ | _ | a <;> rcases n with _ | _ | _ | _ | _ | n <;> first | (exfalso; omega) | skip
  all_goals (rcases i with _ | _ | _ | _ | i <;> first | (exfalso; omega) | skip)
  all_goals first | exact own_in _ _ _ _ _ _ (by decide) (own_hiF _) (own_loF _) | exact own_nin _ _ _ _ _ _ (by decide) rfl rfl
theorem own_ends (e0 e1 e2 e3 t : Int32) (a n i : Nat) (ha : a < 4) (hn : n < 5) (hi : i = 8 ∨ i = 9) (h : a + n ≤ 4) : (own_enc [e0, e1, e2, e3] (Int32.ofNat a) ((((Int32.ofNat n)).toInt - (0 : Int32).toInt).toNat) (0 : Int32) [t, t, t, t, t, t, t, t, t, t]).getD i 0 = t := by
  rcases a with _ | _ | _ | _ | a <;> rcases n with _ | _ | _ | _ | _ | n <;> first | (exfalso; omega) | skip
  all_goals (rcases hi with rfl | rfl <;> rfl)
theorem own_pair (p0 p1 p2 : Int32) (i : Fin 4) : own_F2 (own_t0_36 p0 p1 p2) (own_t0_49 p0 p1 p2) (own_t0_53 p0 p1 p2) (Int32.ofNat i.val) (own_L p0 p1 p2) (own_enc (own_L p0 p1 p2) (own_t0_36 p0 p1 p2) (((own_t0_49 p0 p1 p2).toInt - (0 : Int32).toInt).toNat) (0 : Int32) (own_MM p0 p1 p2)) = 1 := by
  obtain ⟨a, n, ha, hn, h1, h2, h3⟩ := own_cases p0 p1 p2
  rw [h1, h2]
  exact own_pairs _ _ _ _ _ a n i.val ha hn i.isLt h3
theorem own_last (p0 p1 p2 : Int32) (i : Nat) (hi : i = 8 ∨ i = 9) : (own_enc (own_L p0 p1 p2) (own_t0_36 p0 p1 p2) (((own_t0_49 p0 p1 p2).toInt - (0 : Int32).toInt).toNat) (0 : Int32) (own_MM p0 p1 p2)).getD i 0 = own_t0_53 p0 p1 p2 := by
  obtain ⟨a, n, ha, hn, h1, h2, h3⟩ := own_cases p0 p1 p2
  rw [h1, h2]
  exact own_ends _ _ _ _ _ a n i ha hn hi h3
theorem own_ef0 (m : MethodId) (p0 : Int32) (p1 : Int32) (p2 : Int32) : entryFrame m #[(.int p0), (.int p1), (.int p2)] maxLocals = mkF m 0 #[.val (.int p0), .val (.int p1), .val (.int p2), .unset, .unset, .unset, .unset, .unset, .unset] [] := by first | (simp [entryFrame, mkF, argsToLocals, Value.category, maxLocals]; done) | rfl
set_option maxRecDepth 65536 in
set_option maxHeartbeats 40000000 in
theorem own_c0 (l : Launch) (Z : State) (a0 : Array Value) (hw : ∀ d ∈ tables_1, d.before a0 Z = true) (h0 : Heap) (n0 : Nat) (Z0 : n0 ≤ h0.size) (p0 : Int32) (p1 : Int32) (p2 : Int32) (vd : Addr) (BD : own_B Z h0 vd own_DL) (S0 : Sta Z h0 "com/example/luoshu/luoshu/Hex" "DIGITS" "[B" (.ref vd)) :
    own_M l x code maxLocals ret tables_1 room_1 Z #[(.int p0), (.int p1), (.int p2)] h0 (own_Q n0 h0 [] (fun v _ => v = some (.int 1))) := by
  refine own_body (plainFor_of_name own_pn0) ?_
  intro p e s m below meth c T0 X0 hx hby hml hown hnm hret hlk hZ
  refine own_cast (own_ef0 m p0 p1 p2) ?_
  refine own_st (f' := (mkF m 1 #[.val (.int p0), .val (.int p1), .val (.int p2), .unset, .unset, .unset, .unset, .unset, .unset] [(.int (4 : Int32))])) (fun t k => XS.iconst X0.her hx rfl (hb hby at_0) k) ?_
  refine own_newB (kk := 4) X0 hx hZ (own_w0 hw) (by decide) rfl (by decide) (by decide) (by decide) (hb hby at_1) ?_
  intro T13 h13 b13 g13 q13 X13 E13 B13
  replace B13 : own_B Z h13 b13 [(0 : Int32), (0 : Int32), (0 : Int32), (0 : Int32)] := B13
  have ne_vd_b13 : vd ≠ b13 := Nat.ne_of_lt (Nat.lt_of_lt_of_le BD.lt (Nat.le_of_eq g13.symm))
  have B13_vd := BD.ext E13
  have S13_DIGITS := S0.ext E13
  have ga_b13 : n0 ≤ b13 := Nat.le_trans Z0 q13
  have Zn13 : n0 ≤ h13.size := Nat.le_trans Z0 E13.1
  refine own_st (f' := (mkF m 4 #[.val (.int p0), .val (.int p1), .val (.int p2), .val (.ref b13), .unset, .unset, .unset, .unset, .unset] [])) (fun t k => XS.astoreN X13.her hx rfl (hb hby at_3) rfl rfl (l' := #[.val (.int p0), .val (.int p1), .val (.int p2), .val (.ref b13), .unset, .unset, .unset, .unset, .unset]) rfl k) ?_
  refine own_st (f' := (mkF m 5 #[.val (.int p0), .val (.int p1), .val (.int p2), .val (.ref b13), .unset, .unset, .unset, .unset, .unset] [(.ref b13)])) (fun t k => XS.aloadN X13.her hx rfl (hb hby at_4) rfl rfl k) ?_
  refine own_st (f' := (mkF m 6 #[.val (.int p0), .val (.int p1), .val (.int p2), .val (.ref b13), .unset, .unset, .unset, .unset, .unset] [(.int (0 : Int32)), (.ref b13)])) (fun t k => XS.iconst X13.her hx rfl (hb hby at_5) k) ?_
  refine own_st (f' := (mkF m 7 #[.val (.int p0), .val (.int p1), .val (.int p2), .val (.ref b13), .unset, .unset, .unset, .unset, .unset] [(.int p0), (.int (0 : Int32)), (.ref b13)])) (fun t k => XS.iloadN X13.her hx rfl (hb hby at_6) rfl k) ?_
  refine own_st (f' := (mkF m 8 #[.val (.int p0), .val (.int p1), .val (.int p2), .val (.ref b13), .unset, .unset, .unset, .unset, .unset] [(.int (p0.toInt8.toInt32)), (.int (0 : Int32)), (.ref b13)])) (fun t k => XS.i2b X13.her hx rfl (hb hby at_7) rfl k) ?_
  refine own_bstore X13 hx hZ B13 (by decide) (by show 0 < 4; decide) (hb hby at_8) ga_b13 (Or.inr q13) ?_
  intro T14 h14 X14 K14 W14 B14
  have S14_DIGITS := S13_DIGITS.wr W14
  rw [show ((p0.toInt8.toInt32)).toInt8.toInt32 = (p0.toInt8.toInt32) from own_b2 _] at B14
  replace B14 : own_B Z h14 b13 [(p0.toInt8.toInt32), (0 : Int32), (0 : Int32), (0 : Int32)] := B14
  have B14_vd := B13_vd.keep K14 (ninS ne_vd_b13 nin0)
  have Zn14 : n0 ≤ h14.size := Nat.le_trans Zn13 K14.1
  refine own_st (f' := (mkF m 10 #[.val (.int p0), .val (.int p1), .val (.int p2), .val (.ref b13), .unset, .unset, .unset, .unset, .unset] [(.ref b13)])) (fun t k => XS.aloadN X14.her hx rfl (hb hby at_9) rfl rfl k) ?_
  refine own_st (f' := (mkF m 11 #[.val (.int p0), .val (.int p1), .val (.int p2), .val (.ref b13), .unset, .unset, .unset, .unset, .unset] [(.int (1 : Int32)), (.ref b13)])) (fun t k => XS.iconst X14.her hx rfl (hb hby at_10) k) ?_
  refine own_st (f' := (mkF m 12 #[.val (.int p0), .val (.int p1), .val (.int p2), .val (.ref b13), .unset, .unset, .unset, .unset, .unset] [(.int p0), (.int (1 : Int32)), (.ref b13)])) (fun t k => XS.iloadN X14.her hx rfl (hb hby at_11) rfl k) ?_
  refine own_st (f' := (mkF m 14 #[.val (.int p0), .val (.int p1), .val (.int p2), .val (.ref b13), .unset, .unset, .unset, .unset, .unset] [(.int (8 : Int32)), (.int p0), (.int (1 : Int32)), (.ref b13)])) (fun t k => XS.bipush X14.her hx rfl (hb hby at_12) k) ?_
  refine own_st (f' := (mkF m 15 #[.val (.int p0), .val (.int p1), .val (.int p2), .val (.ref b13), .unset, .unset, .unset, .unset, .unset] [(.int (p0 >>> ((8 : Int32) &&& 31))), (.int (1 : Int32)), (.ref b13)])) (fun t k => XS.ishr X14.her hx rfl (hb hby at_14) rfl k) ?_
  refine own_st (f' := (mkF m 16 #[.val (.int p0), .val (.int p1), .val (.int p2), .val (.ref b13), .unset, .unset, .unset, .unset, .unset] [(.int ((p0 >>> ((8 : Int32) &&& 31)).toInt8.toInt32)), (.int (1 : Int32)), (.ref b13)])) (fun t k => XS.i2b X14.her hx rfl (hb hby at_15) rfl k) ?_
  refine own_bstore X14 hx hZ B14 (by decide) (by show 1 < 4; decide) (hb hby at_16) ga_b13 (Or.inr q13) ?_
  intro T15 h15 X15 K15 W15 B15
  have S15_DIGITS := S14_DIGITS.wr W15
  rw [show (((p0 >>> ((8 : Int32) &&& 31)).toInt8.toInt32)).toInt8.toInt32 = ((p0 >>> ((8 : Int32) &&& 31)).toInt8.toInt32) from own_b2 _] at B15
  replace B15 : own_B Z h15 b13 [(p0.toInt8.toInt32), ((p0 >>> ((8 : Int32) &&& 31)).toInt8.toInt32), (0 : Int32), (0 : Int32)] := B15
  have B15_vd := B14_vd.keep K15 (ninS ne_vd_b13 nin0)
  have Zn15 : n0 ≤ h15.size := Nat.le_trans Zn14 K15.1
  refine own_st (f' := (mkF m 18 #[.val (.int p0), .val (.int p1), .val (.int p2), .val (.ref b13), .unset, .unset, .unset, .unset, .unset] [(.ref b13)])) (fun t k => XS.aloadN X15.her hx rfl (hb hby at_17) rfl rfl k) ?_
  refine own_st (f' := (mkF m 19 #[.val (.int p0), .val (.int p1), .val (.int p2), .val (.ref b13), .unset, .unset, .unset, .unset, .unset] [(.int (2 : Int32)), (.ref b13)])) (fun t k => XS.iconst X15.her hx rfl (hb hby at_18) k) ?_
  refine own_st (f' := (mkF m 20 #[.val (.int p0), .val (.int p1), .val (.int p2), .val (.ref b13), .unset, .unset, .unset, .unset, .unset] [(.int p0), (.int (2 : Int32)), (.ref b13)])) (fun t k => XS.iloadN X15.her hx rfl (hb hby at_19) rfl k) ?_
  refine own_st (f' := (mkF m 22 #[.val (.int p0), .val (.int p1), .val (.int p2), .val (.ref b13), .unset, .unset, .unset, .unset, .unset] [(.int (16 : Int32)), (.int p0), (.int (2 : Int32)), (.ref b13)])) (fun t k => XS.bipush X15.her hx rfl (hb hby at_20) k) ?_
  refine own_st (f' := (mkF m 23 #[.val (.int p0), .val (.int p1), .val (.int p2), .val (.ref b13), .unset, .unset, .unset, .unset, .unset] [(.int (p0 >>> ((16 : Int32) &&& 31))), (.int (2 : Int32)), (.ref b13)])) (fun t k => XS.ishr X15.her hx rfl (hb hby at_22) rfl k) ?_
  refine own_st (f' := (mkF m 24 #[.val (.int p0), .val (.int p1), .val (.int p2), .val (.ref b13), .unset, .unset, .unset, .unset, .unset] [(.int ((p0 >>> ((16 : Int32) &&& 31)).toInt8.toInt32)), (.int (2 : Int32)), (.ref b13)])) (fun t k => XS.i2b X15.her hx rfl (hb hby at_23) rfl k) ?_
  refine own_bstore X15 hx hZ B15 (by decide) (by show 2 < 4; decide) (hb hby at_24) ga_b13 (Or.inr q13) ?_
  intro T16 h16 X16 K16 W16 B16
  have S16_DIGITS := S15_DIGITS.wr W16
  rw [show (((p0 >>> ((16 : Int32) &&& 31)).toInt8.toInt32)).toInt8.toInt32 = ((p0 >>> ((16 : Int32) &&& 31)).toInt8.toInt32) from own_b2 _] at B16
  replace B16 : own_B Z h16 b13 [(p0.toInt8.toInt32), ((p0 >>> ((8 : Int32) &&& 31)).toInt8.toInt32), ((p0 >>> ((16 : Int32) &&& 31)).toInt8.toInt32), (0 : Int32)] := B16
  have B16_vd := B15_vd.keep K16 (ninS ne_vd_b13 nin0)
  have Zn16 : n0 ≤ h16.size := Nat.le_trans Zn15 K16.1
  refine own_st (f' := (mkF m 26 #[.val (.int p0), .val (.int p1), .val (.int p2), .val (.ref b13), .unset, .unset, .unset, .unset, .unset] [(.ref b13)])) (fun t k => XS.aloadN X16.her hx rfl (hb hby at_25) rfl rfl k) ?_
  refine own_st (f' := (mkF m 27 #[.val (.int p0), .val (.int p1), .val (.int p2), .val (.ref b13), .unset, .unset, .unset, .unset, .unset] [(.int (3 : Int32)), (.ref b13)])) (fun t k => XS.iconst X16.her hx rfl (hb hby at_26) k) ?_
  refine own_st (f' := (mkF m 28 #[.val (.int p0), .val (.int p1), .val (.int p2), .val (.ref b13), .unset, .unset, .unset, .unset, .unset] [(.int p0), (.int (3 : Int32)), (.ref b13)])) (fun t k => XS.iloadN X16.her hx rfl (hb hby at_27) rfl k) ?_
  refine own_st (f' := (mkF m 30 #[.val (.int p0), .val (.int p1), .val (.int p2), .val (.ref b13), .unset, .unset, .unset, .unset, .unset] [(.int (24 : Int32)), (.int p0), (.int (3 : Int32)), (.ref b13)])) (fun t k => XS.bipush X16.her hx rfl (hb hby at_28) k) ?_
  refine own_st (f' := (mkF m 31 #[.val (.int p0), .val (.int p1), .val (.int p2), .val (.ref b13), .unset, .unset, .unset, .unset, .unset] [(.int (p0 >>> ((24 : Int32) &&& 31))), (.int (3 : Int32)), (.ref b13)])) (fun t k => XS.ishr X16.her hx rfl (hb hby at_30) rfl k) ?_
  refine own_st (f' := (mkF m 32 #[.val (.int p0), .val (.int p1), .val (.int p2), .val (.ref b13), .unset, .unset, .unset, .unset, .unset] [(.int ((p0 >>> ((24 : Int32) &&& 31)).toInt8.toInt32)), (.int (3 : Int32)), (.ref b13)])) (fun t k => XS.i2b X16.her hx rfl (hb hby at_31) rfl k) ?_
  refine own_bstore X16 hx hZ B16 (by decide) (by show 3 < 4; decide) (hb hby at_32) ga_b13 (Or.inr q13) ?_
  intro T17 h17 X17 K17 W17 B17
  have S17_DIGITS := S16_DIGITS.wr W17
  rw [show (((p0 >>> ((24 : Int32) &&& 31)).toInt8.toInt32)).toInt8.toInt32 = ((p0 >>> ((24 : Int32) &&& 31)).toInt8.toInt32) from own_b2 _] at B17
  replace B17 : own_B Z h17 b13 [(p0.toInt8.toInt32), ((p0 >>> ((8 : Int32) &&& 31)).toInt8.toInt32), ((p0 >>> ((16 : Int32) &&& 31)).toInt8.toInt32), ((p0 >>> ((24 : Int32) &&& 31)).toInt8.toInt32)] := B17
  have B17_vd := B16_vd.keep K17 (ninS ne_vd_b13 nin0)
  have Zn17 : n0 ≤ h17.size := Nat.le_trans Zn16 K17.1
  refine own_st (f' := (mkF m 34 #[.val (.int p0), .val (.int p1), .val (.int p2), .val (.ref b13), .unset, .unset, .unset, .unset, .unset] [(.int p1)])) (fun t k => XS.iloadN X17.her hx rfl (hb hby at_33) rfl k) ?_
  refine own_st (f' := (mkF m 35 #[.val (.int p0), .val (.int p1), .val (.int p2), .val (.ref b13), .unset, .unset, .unset, .unset, .unset] [(.int (3 : Int32)), (.int p1)])) (fun t k => XS.iconst X17.her hx rfl (hb hby at_34) k) ?_
  refine own_st (f' := (mkF m 36 #[.val (.int p0), .val (.int p1), .val (.int p2), .val (.ref b13), .unset, .unset, .unset, .unset, .unset] [(.int (p1 &&& (3 : Int32)))])) (fun t k => XS.iand X17.her hx rfl (hb hby at_35) rfl k) ?_
  refine own_st (f' := (mkF m 38 #[.val (.int p0), .val (.int p1), .val (.int p2), .val (.ref b13), .val (.int (own_t0_36 p0 p1 p2)), .unset, .unset, .unset, .unset] [])) (fun t k => XS.istore X17.her hx rfl (hb hby at_36) rfl (l' := #[.val (.int p0), .val (.int p1), .val (.int p2), .val (.ref b13), .val (.int (own_t0_36 p0 p1 p2)), .unset, .unset, .unset, .unset]) rfl k) ?_
  refine own_st (f' := (mkF m 39 #[.val (.int p0), .val (.int p1), .val (.int p2), .val (.ref b13), .val (.int (own_t0_36 p0 p1 p2)), .unset, .unset, .unset, .unset] [(.int p1)])) (fun t k => XS.iloadN X17.her hx rfl (hb hby at_38) rfl k) ?_
  refine own_st (f' := (mkF m 40 #[.val (.int p0), .val (.int p1), .val (.int p2), .val (.ref b13), .val (.int (own_t0_36 p0 p1 p2)), .unset, .unset, .unset, .unset] [(.int (2 : Int32)), (.int p1)])) (fun t k => XS.iconst X17.her hx rfl (hb hby at_39) k) ?_
  refine own_st (f' := (mkF m 41 #[.val (.int p0), .val (.int p1), .val (.int p2), .val (.ref b13), .val (.int (own_t0_36 p0 p1 p2)), .unset, .unset, .unset, .unset] [(.int ((p1.toUInt32 >>> ((2 : Int32) &&& 31).toUInt32).toInt32))])) (fun t k => XS.iushr X17.her hx rfl (hb hby at_40) rfl k) ?_
  refine own_st (f' := (mkF m 43 #[.val (.int p0), .val (.int p1), .val (.int p2), .val (.ref b13), .val (.int (own_t0_36 p0 p1 p2)), .unset, .unset, .unset, .unset] [(.int (7 : Int32)), (.int ((p1.toUInt32 >>> ((2 : Int32) &&& 31).toUInt32).toInt32))])) (fun t k => XS.bipush X17.her hx rfl (hb hby at_41) k) ?_
  refine own_st (f' := (mkF m 44 #[.val (.int p0), .val (.int p1), .val (.int p2), .val (.ref b13), .val (.int (own_t0_36 p0 p1 p2)), .unset, .unset, .unset, .unset] [(.int (((p1.toUInt32 >>> ((2 : Int32) &&& 31).toUInt32).toInt32) &&& (7 : Int32)))])) (fun t k => XS.iand X17.her hx rfl (hb hby at_43) rfl k) ?_
  refine own_st (f' := (mkF m 45 #[.val (.int p0), .val (.int p1), .val (.int p2), .val (.ref b13), .val (.int (own_t0_36 p0 p1 p2)), .unset, .unset, .unset, .unset] [(.int (5 : Int32)), (.int (((p1.toUInt32 >>> ((2 : Int32) &&& 31).toUInt32).toInt32) &&& (7 : Int32)))])) (fun t k => XS.iconst X17.her hx rfl (hb hby at_44) k) ?_
  refine own_st (f' := (mkF m 47 #[.val (.int p0), .val (.int p1), .val (.int p2), .val (.ref b13), .val (.int (own_t0_36 p0 p1 p2)), .unset, .unset, .unset, .unset] [(.int (own_t0_36 p0 p1 p2)), (.int (5 : Int32)), (.int (((p1.toUInt32 >>> ((2 : Int32) &&& 31).toUInt32).toInt32) &&& (7 : Int32)))])) (fun t k => XS.iload X17.her hx rfl (hb hby at_45) rfl k) ?_
  refine own_st (f' := (mkF m 48 #[.val (.int p0), .val (.int p1), .val (.int p2), .val (.ref b13), .val (.int (own_t0_36 p0 p1 p2)), .unset, .unset, .unset, .unset] [(.int ((5 : Int32) - (own_t0_36 p0 p1 p2))), (.int (((p1.toUInt32 >>> ((2 : Int32) &&& 31).toUInt32).toInt32) &&& (7 : Int32)))])) (fun t k => XS.isub X17.her hx rfl (hb hby at_47) rfl k) ?_
  refine own_irem X17 hx (hb hby at_48) (own_nz p0 p1 p2) ?_
  refine own_st (f' := (mkF m 51 #[.val (.int p0), .val (.int p1), .val (.int p2), .val (.ref b13), .val (.int (own_t0_36 p0 p1 p2)), .val (.int (own_t0_49 p0 p1 p2)), .unset, .unset, .unset] [])) (fun t k => XS.istore X17.her hx rfl (hb hby at_49) rfl (l' := #[.val (.int p0), .val (.int p1), .val (.int p2), .val (.ref b13), .val (.int (own_t0_36 p0 p1 p2)), .val (.int (own_t0_49 p0 p1 p2)), .unset, .unset, .unset]) rfl k) ?_
  refine own_st (f' := (mkF m 52 #[.val (.int p0), .val (.int p1), .val (.int p2), .val (.ref b13), .val (.int (own_t0_36 p0 p1 p2)), .val (.int (own_t0_49 p0 p1 p2)), .unset, .unset, .unset] [(.int p2)])) (fun t k => XS.iloadN X17.her hx rfl (hb hby at_51) rfl k) ?_
  refine own_st (f' := (mkF m 53 #[.val (.int p0), .val (.int p1), .val (.int p2), .val (.ref b13), .val (.int (own_t0_36 p0 p1 p2)), .val (.int (own_t0_49 p0 p1 p2)), .unset, .unset, .unset] [(.int (p2.toInt8.toInt32))])) (fun t k => XS.i2b X17.her hx rfl (hb hby at_52) rfl k) ?_
  refine own_st (f' := (mkF m 55 #[.val (.int p0), .val (.int p1), .val (.int p2), .val (.ref b13), .val (.int (own_t0_36 p0 p1 p2)), .val (.int (own_t0_49 p0 p1 p2)), .val (.int (own_t0_53 p0 p1 p2)), .unset, .unset] [])) (fun t k => XS.istore X17.her hx rfl (hb hby at_53) rfl (l' := #[.val (.int p0), .val (.int p1), .val (.int p2), .val (.ref b13), .val (.int (own_t0_36 p0 p1 p2)), .val (.int (own_t0_49 p0 p1 p2)), .val (.int (own_t0_53 p0 p1 p2)), .unset, .unset]) rfl k) ?_
  refine own_st (f' := (mkF m 57 #[.val (.int p0), .val (.int p1), .val (.int p2), .val (.ref b13), .val (.int (own_t0_36 p0 p1 p2)), .val (.int (own_t0_49 p0 p1 p2)), .val (.int (own_t0_53 p0 p1 p2)), .unset, .unset] [(.int (10 : Int32))])) (fun t k => XS.bipush X17.her hx rfl (hb hby at_55) k) ?_
  refine own_newB (kk := 10) X17 hx hZ (own_w0 hw) (by decide) rfl (by decide) (by decide) (by decide) (hb hby at_57) ?_
  intro T18 h18 b18 g18 q18 X18 E18 B18
  replace B18 : own_B Z h18 b18 [(0 : Int32), (0 : Int32), (0 : Int32), (0 : Int32), (0 : Int32), (0 : Int32), (0 : Int32), (0 : Int32), (0 : Int32), (0 : Int32)] := B18
  have ne_vd_b18 : vd ≠ b18 := Nat.ne_of_lt (Nat.lt_of_lt_of_le B17_vd.lt (Nat.le_of_eq g18.symm))
  have B18_vd := B17_vd.ext E18
  have ne_b13_b18 : b13 ≠ b18 := Nat.ne_of_lt (Nat.lt_of_lt_of_le B17.lt (Nat.le_of_eq g18.symm))
  have B18_b13 := B17.ext E18
  have S18_DIGITS := S17_DIGITS.ext E18
  have ga_b18 : n0 ≤ b18 := Nat.le_trans Z0 q18
  have Zn18 : n0 ≤ h18.size := Nat.le_trans Zn17 E18.1
  refine own_st (f' := (mkF m 61 #[.val (.int p0), .val (.int p1), .val (.int p2), .val (.ref b13), .val (.int (own_t0_36 p0 p1 p2)), .val (.int (own_t0_49 p0 p1 p2)), .val (.int (own_t0_53 p0 p1 p2)), .val (.ref b18), .unset] [])) (fun t k => XS.astore X18.her hx rfl (hb hby at_59) rfl rfl (l' := #[.val (.int p0), .val (.int p1), .val (.int p2), .val (.ref b13), .val (.int (own_t0_36 p0 p1 p2)), .val (.int (own_t0_49 p0 p1 p2)), .val (.int (own_t0_53 p0 p1 p2)), .val (.ref b18), .unset]) rfl k) ?_
  refine own_st (f' := (mkF m 63 #[.val (.int p0), .val (.int p1), .val (.int p2), .val (.ref b13), .val (.int (own_t0_36 p0 p1 p2)), .val (.int (own_t0_49 p0 p1 p2)), .val (.int (own_t0_53 p0 p1 p2)), .val (.ref b18), .unset] [(.ref b18)])) (fun t k => XS.aload X18.her hx rfl (hb hby at_61) rfl rfl k) ?_
  refine own_st (f' := (mkF m 64 #[.val (.int p0), .val (.int p1), .val (.int p2), .val (.ref b13), .val (.int (own_t0_36 p0 p1 p2)), .val (.int (own_t0_49 p0 p1 p2)), .val (.int (own_t0_53 p0 p1 p2)), .val (.ref b18), .unset] [(.int (0 : Int32)), (.ref b18)])) (fun t k => XS.iconst X18.her hx rfl (hb hby at_63) k) ?_
  refine own_st (f' := (mkF m 66 #[.val (.int p0), .val (.int p1), .val (.int p2), .val (.ref b13), .val (.int (own_t0_36 p0 p1 p2)), .val (.int (own_t0_49 p0 p1 p2)), .val (.int (own_t0_53 p0 p1 p2)), .val (.ref b18), .unset] [(.int (own_t0_53 p0 p1 p2)), (.int (0 : Int32)), (.ref b18)])) (fun t k => XS.iload X18.her hx rfl (hb hby at_64) rfl k) ?_
  refine own_bstore X18 hx hZ B18 (by decide) (by show 0 < 10; decide) (hb hby at_66) ga_b18 (Or.inr q18) ?_
  intro T19 h19 X19 K19 W19 B19
  have S19_DIGITS := S18_DIGITS.wr W19
  rw [show ((own_t0_53 p0 p1 p2)).toInt8.toInt32 = (own_t0_53 p0 p1 p2) from own_b2 _] at B19
  replace B19 : own_B Z h19 b18 [(own_t0_53 p0 p1 p2), (0 : Int32), (0 : Int32), (0 : Int32), (0 : Int32), (0 : Int32), (0 : Int32), (0 : Int32), (0 : Int32), (0 : Int32)] := B19
  have B19_vd := B18_vd.keep K19 (ninS ne_vd_b18 nin0)
  have B19_b13 := B18_b13.keep K19 (ninS ne_b13_b18 nin0)
  have Zn19 : n0 ≤ h19.size := Nat.le_trans Zn18 K19.1
  refine own_st (f' := (mkF m 69 #[.val (.int p0), .val (.int p1), .val (.int p2), .val (.ref b13), .val (.int (own_t0_36 p0 p1 p2)), .val (.int (own_t0_49 p0 p1 p2)), .val (.int (own_t0_53 p0 p1 p2)), .val (.ref b18), .unset] [(.ref b18)])) (fun t k => XS.aload X19.her hx rfl (hb hby at_67) rfl rfl k) ?_
  refine own_st (f' := (mkF m 70 #[.val (.int p0), .val (.int p1), .val (.int p2), .val (.ref b13), .val (.int (own_t0_36 p0 p1 p2)), .val (.int (own_t0_49 p0 p1 p2)), .val (.int (own_t0_53 p0 p1 p2)), .val (.ref b18), .unset] [(.int (1 : Int32)), (.ref b18)])) (fun t k => XS.iconst X19.her hx rfl (hb hby at_69) k) ?_
  refine own_st (f' := (mkF m 72 #[.val (.int p0), .val (.int p1), .val (.int p2), .val (.ref b13), .val (.int (own_t0_36 p0 p1 p2)), .val (.int (own_t0_49 p0 p1 p2)), .val (.int (own_t0_53 p0 p1 p2)), .val (.ref b18), .unset] [(.int (own_t0_53 p0 p1 p2)), (.int (1 : Int32)), (.ref b18)])) (fun t k => XS.iload X19.her hx rfl (hb hby at_70) rfl k) ?_
  refine own_bstore X19 hx hZ B19 (by decide) (by show 1 < 10; decide) (hb hby at_72) ga_b18 (Or.inr q18) ?_
  intro T20 h20 X20 K20 W20 B20
  have S20_DIGITS := S19_DIGITS.wr W20
  rw [show ((own_t0_53 p0 p1 p2)).toInt8.toInt32 = (own_t0_53 p0 p1 p2) from own_b2 _] at B20
  replace B20 : own_B Z h20 b18 [(own_t0_53 p0 p1 p2), (own_t0_53 p0 p1 p2), (0 : Int32), (0 : Int32), (0 : Int32), (0 : Int32), (0 : Int32), (0 : Int32), (0 : Int32), (0 : Int32)] := B20
  have B20_vd := B19_vd.keep K20 (ninS ne_vd_b18 nin0)
  have B20_b13 := B19_b13.keep K20 (ninS ne_b13_b18 nin0)
  have Zn20 : n0 ≤ h20.size := Nat.le_trans Zn19 K20.1
  refine own_st (f' := (mkF m 75 #[.val (.int p0), .val (.int p1), .val (.int p2), .val (.ref b13), .val (.int (own_t0_36 p0 p1 p2)), .val (.int (own_t0_49 p0 p1 p2)), .val (.int (own_t0_53 p0 p1 p2)), .val (.ref b18), .unset] [(.ref b18)])) (fun t k => XS.aload X20.her hx rfl (hb hby at_73) rfl rfl k) ?_
  refine own_st (f' := (mkF m 76 #[.val (.int p0), .val (.int p1), .val (.int p2), .val (.ref b13), .val (.int (own_t0_36 p0 p1 p2)), .val (.int (own_t0_49 p0 p1 p2)), .val (.int (own_t0_53 p0 p1 p2)), .val (.ref b18), .unset] [(.int (2 : Int32)), (.ref b18)])) (fun t k => XS.iconst X20.her hx rfl (hb hby at_75) k) ?_
  refine own_st (f' := (mkF m 78 #[.val (.int p0), .val (.int p1), .val (.int p2), .val (.ref b13), .val (.int (own_t0_36 p0 p1 p2)), .val (.int (own_t0_49 p0 p1 p2)), .val (.int (own_t0_53 p0 p1 p2)), .val (.ref b18), .unset] [(.int (own_t0_53 p0 p1 p2)), (.int (2 : Int32)), (.ref b18)])) (fun t k => XS.iload X20.her hx rfl (hb hby at_76) rfl k) ?_
  refine own_bstore X20 hx hZ B20 (by decide) (by show 2 < 10; decide) (hb hby at_78) ga_b18 (Or.inr q18) ?_
  intro T21 h21 X21 K21 W21 B21
  have S21_DIGITS := S20_DIGITS.wr W21
  rw [show ((own_t0_53 p0 p1 p2)).toInt8.toInt32 = (own_t0_53 p0 p1 p2) from own_b2 _] at B21
  replace B21 : own_B Z h21 b18 [(own_t0_53 p0 p1 p2), (own_t0_53 p0 p1 p2), (own_t0_53 p0 p1 p2), (0 : Int32), (0 : Int32), (0 : Int32), (0 : Int32), (0 : Int32), (0 : Int32), (0 : Int32)] := B21
  have B21_vd := B20_vd.keep K21 (ninS ne_vd_b18 nin0)
  have B21_b13 := B20_b13.keep K21 (ninS ne_b13_b18 nin0)
  have Zn21 : n0 ≤ h21.size := Nat.le_trans Zn20 K21.1
  refine own_st (f' := (mkF m 81 #[.val (.int p0), .val (.int p1), .val (.int p2), .val (.ref b13), .val (.int (own_t0_36 p0 p1 p2)), .val (.int (own_t0_49 p0 p1 p2)), .val (.int (own_t0_53 p0 p1 p2)), .val (.ref b18), .unset] [(.ref b18)])) (fun t k => XS.aload X21.her hx rfl (hb hby at_79) rfl rfl k) ?_
  refine own_st (f' := (mkF m 82 #[.val (.int p0), .val (.int p1), .val (.int p2), .val (.ref b13), .val (.int (own_t0_36 p0 p1 p2)), .val (.int (own_t0_49 p0 p1 p2)), .val (.int (own_t0_53 p0 p1 p2)), .val (.ref b18), .unset] [(.int (3 : Int32)), (.ref b18)])) (fun t k => XS.iconst X21.her hx rfl (hb hby at_81) k) ?_
  refine own_st (f' := (mkF m 84 #[.val (.int p0), .val (.int p1), .val (.int p2), .val (.ref b13), .val (.int (own_t0_36 p0 p1 p2)), .val (.int (own_t0_49 p0 p1 p2)), .val (.int (own_t0_53 p0 p1 p2)), .val (.ref b18), .unset] [(.int (own_t0_53 p0 p1 p2)), (.int (3 : Int32)), (.ref b18)])) (fun t k => XS.iload X21.her hx rfl (hb hby at_82) rfl k) ?_
  refine own_bstore X21 hx hZ B21 (by decide) (by show 3 < 10; decide) (hb hby at_84) ga_b18 (Or.inr q18) ?_
  intro T22 h22 X22 K22 W22 B22
  have S22_DIGITS := S21_DIGITS.wr W22
  rw [show ((own_t0_53 p0 p1 p2)).toInt8.toInt32 = (own_t0_53 p0 p1 p2) from own_b2 _] at B22
  replace B22 : own_B Z h22 b18 [(own_t0_53 p0 p1 p2), (own_t0_53 p0 p1 p2), (own_t0_53 p0 p1 p2), (own_t0_53 p0 p1 p2), (0 : Int32), (0 : Int32), (0 : Int32), (0 : Int32), (0 : Int32), (0 : Int32)] := B22
  have B22_vd := B21_vd.keep K22 (ninS ne_vd_b18 nin0)
  have B22_b13 := B21_b13.keep K22 (ninS ne_b13_b18 nin0)
  have Zn22 : n0 ≤ h22.size := Nat.le_trans Zn21 K22.1
  refine own_st (f' := (mkF m 87 #[.val (.int p0), .val (.int p1), .val (.int p2), .val (.ref b13), .val (.int (own_t0_36 p0 p1 p2)), .val (.int (own_t0_49 p0 p1 p2)), .val (.int (own_t0_53 p0 p1 p2)), .val (.ref b18), .unset] [(.ref b18)])) (fun t k => XS.aload X22.her hx rfl (hb hby at_85) rfl rfl k) ?_
  refine own_st (f' := (mkF m 88 #[.val (.int p0), .val (.int p1), .val (.int p2), .val (.ref b13), .val (.int (own_t0_36 p0 p1 p2)), .val (.int (own_t0_49 p0 p1 p2)), .val (.int (own_t0_53 p0 p1 p2)), .val (.ref b18), .unset] [(.int (4 : Int32)), (.ref b18)])) (fun t k => XS.iconst X22.her hx rfl (hb hby at_87) k) ?_
  refine own_st (f' := (mkF m 90 #[.val (.int p0), .val (.int p1), .val (.int p2), .val (.ref b13), .val (.int (own_t0_36 p0 p1 p2)), .val (.int (own_t0_49 p0 p1 p2)), .val (.int (own_t0_53 p0 p1 p2)), .val (.ref b18), .unset] [(.int (own_t0_53 p0 p1 p2)), (.int (4 : Int32)), (.ref b18)])) (fun t k => XS.iload X22.her hx rfl (hb hby at_88) rfl k) ?_
  refine own_bstore X22 hx hZ B22 (by decide) (by show 4 < 10; decide) (hb hby at_90) ga_b18 (Or.inr q18) ?_
  intro T23 h23 X23 K23 W23 B23
  have S23_DIGITS := S22_DIGITS.wr W23
  rw [show ((own_t0_53 p0 p1 p2)).toInt8.toInt32 = (own_t0_53 p0 p1 p2) from own_b2 _] at B23
  replace B23 : own_B Z h23 b18 [(own_t0_53 p0 p1 p2), (own_t0_53 p0 p1 p2), (own_t0_53 p0 p1 p2), (own_t0_53 p0 p1 p2), (own_t0_53 p0 p1 p2), (0 : Int32), (0 : Int32), (0 : Int32), (0 : Int32), (0 : Int32)] := B23
  have B23_vd := B22_vd.keep K23 (ninS ne_vd_b18 nin0)
  have B23_b13 := B22_b13.keep K23 (ninS ne_b13_b18 nin0)
  have Zn23 : n0 ≤ h23.size := Nat.le_trans Zn22 K23.1
  refine own_st (f' := (mkF m 93 #[.val (.int p0), .val (.int p1), .val (.int p2), .val (.ref b13), .val (.int (own_t0_36 p0 p1 p2)), .val (.int (own_t0_49 p0 p1 p2)), .val (.int (own_t0_53 p0 p1 p2)), .val (.ref b18), .unset] [(.ref b18)])) (fun t k => XS.aload X23.her hx rfl (hb hby at_91) rfl rfl k) ?_
  refine own_st (f' := (mkF m 94 #[.val (.int p0), .val (.int p1), .val (.int p2), .val (.ref b13), .val (.int (own_t0_36 p0 p1 p2)), .val (.int (own_t0_49 p0 p1 p2)), .val (.int (own_t0_53 p0 p1 p2)), .val (.ref b18), .unset] [(.int (5 : Int32)), (.ref b18)])) (fun t k => XS.iconst X23.her hx rfl (hb hby at_93) k) ?_
  refine own_st (f' := (mkF m 96 #[.val (.int p0), .val (.int p1), .val (.int p2), .val (.ref b13), .val (.int (own_t0_36 p0 p1 p2)), .val (.int (own_t0_49 p0 p1 p2)), .val (.int (own_t0_53 p0 p1 p2)), .val (.ref b18), .unset] [(.int (own_t0_53 p0 p1 p2)), (.int (5 : Int32)), (.ref b18)])) (fun t k => XS.iload X23.her hx rfl (hb hby at_94) rfl k) ?_
  refine own_bstore X23 hx hZ B23 (by decide) (by show 5 < 10; decide) (hb hby at_96) ga_b18 (Or.inr q18) ?_
  intro T24 h24 X24 K24 W24 B24
  have S24_DIGITS := S23_DIGITS.wr W24
  rw [show ((own_t0_53 p0 p1 p2)).toInt8.toInt32 = (own_t0_53 p0 p1 p2) from own_b2 _] at B24
  replace B24 : own_B Z h24 b18 [(own_t0_53 p0 p1 p2), (own_t0_53 p0 p1 p2), (own_t0_53 p0 p1 p2), (own_t0_53 p0 p1 p2), (own_t0_53 p0 p1 p2), (own_t0_53 p0 p1 p2), (0 : Int32), (0 : Int32), (0 : Int32), (0 : Int32)] := B24
  have B24_vd := B23_vd.keep K24 (ninS ne_vd_b18 nin0)
  have B24_b13 := B23_b13.keep K24 (ninS ne_b13_b18 nin0)
  have Zn24 : n0 ≤ h24.size := Nat.le_trans Zn23 K24.1
  refine own_st (f' := (mkF m 99 #[.val (.int p0), .val (.int p1), .val (.int p2), .val (.ref b13), .val (.int (own_t0_36 p0 p1 p2)), .val (.int (own_t0_49 p0 p1 p2)), .val (.int (own_t0_53 p0 p1 p2)), .val (.ref b18), .unset] [(.ref b18)])) (fun t k => XS.aload X24.her hx rfl (hb hby at_97) rfl rfl k) ?_
  refine own_st (f' := (mkF m 101 #[.val (.int p0), .val (.int p1), .val (.int p2), .val (.ref b13), .val (.int (own_t0_36 p0 p1 p2)), .val (.int (own_t0_49 p0 p1 p2)), .val (.int (own_t0_53 p0 p1 p2)), .val (.ref b18), .unset] [(.int (6 : Int32)), (.ref b18)])) (fun t k => XS.bipush X24.her hx rfl (hb hby at_99) k) ?_
  refine own_st (f' := (mkF m 103 #[.val (.int p0), .val (.int p1), .val (.int p2), .val (.ref b13), .val (.int (own_t0_36 p0 p1 p2)), .val (.int (own_t0_49 p0 p1 p2)), .val (.int (own_t0_53 p0 p1 p2)), .val (.ref b18), .unset] [(.int (own_t0_53 p0 p1 p2)), (.int (6 : Int32)), (.ref b18)])) (fun t k => XS.iload X24.her hx rfl (hb hby at_101) rfl k) ?_
  refine own_bstore X24 hx hZ B24 (by decide) (by show 6 < 10; decide) (hb hby at_103) ga_b18 (Or.inr q18) ?_
  intro T25 h25 X25 K25 W25 B25
  have S25_DIGITS := S24_DIGITS.wr W25
  rw [show ((own_t0_53 p0 p1 p2)).toInt8.toInt32 = (own_t0_53 p0 p1 p2) from own_b2 _] at B25
  replace B25 : own_B Z h25 b18 [(own_t0_53 p0 p1 p2), (own_t0_53 p0 p1 p2), (own_t0_53 p0 p1 p2), (own_t0_53 p0 p1 p2), (own_t0_53 p0 p1 p2), (own_t0_53 p0 p1 p2), (own_t0_53 p0 p1 p2), (0 : Int32), (0 : Int32), (0 : Int32)] := B25
  have B25_vd := B24_vd.keep K25 (ninS ne_vd_b18 nin0)
  have B25_b13 := B24_b13.keep K25 (ninS ne_b13_b18 nin0)
  have Zn25 : n0 ≤ h25.size := Nat.le_trans Zn24 K25.1
  refine own_st (f' := (mkF m 106 #[.val (.int p0), .val (.int p1), .val (.int p2), .val (.ref b13), .val (.int (own_t0_36 p0 p1 p2)), .val (.int (own_t0_49 p0 p1 p2)), .val (.int (own_t0_53 p0 p1 p2)), .val (.ref b18), .unset] [(.ref b18)])) (fun t k => XS.aload X25.her hx rfl (hb hby at_104) rfl rfl k) ?_
  refine own_st (f' := (mkF m 108 #[.val (.int p0), .val (.int p1), .val (.int p2), .val (.ref b13), .val (.int (own_t0_36 p0 p1 p2)), .val (.int (own_t0_49 p0 p1 p2)), .val (.int (own_t0_53 p0 p1 p2)), .val (.ref b18), .unset] [(.int (7 : Int32)), (.ref b18)])) (fun t k => XS.bipush X25.her hx rfl (hb hby at_106) k) ?_
  refine own_st (f' := (mkF m 110 #[.val (.int p0), .val (.int p1), .val (.int p2), .val (.ref b13), .val (.int (own_t0_36 p0 p1 p2)), .val (.int (own_t0_49 p0 p1 p2)), .val (.int (own_t0_53 p0 p1 p2)), .val (.ref b18), .unset] [(.int (own_t0_53 p0 p1 p2)), (.int (7 : Int32)), (.ref b18)])) (fun t k => XS.iload X25.her hx rfl (hb hby at_108) rfl k) ?_
  refine own_bstore X25 hx hZ B25 (by decide) (by show 7 < 10; decide) (hb hby at_110) ga_b18 (Or.inr q18) ?_
  intro T26 h26 X26 K26 W26 B26
  have S26_DIGITS := S25_DIGITS.wr W26
  rw [show ((own_t0_53 p0 p1 p2)).toInt8.toInt32 = (own_t0_53 p0 p1 p2) from own_b2 _] at B26
  replace B26 : own_B Z h26 b18 [(own_t0_53 p0 p1 p2), (own_t0_53 p0 p1 p2), (own_t0_53 p0 p1 p2), (own_t0_53 p0 p1 p2), (own_t0_53 p0 p1 p2), (own_t0_53 p0 p1 p2), (own_t0_53 p0 p1 p2), (own_t0_53 p0 p1 p2), (0 : Int32), (0 : Int32)] := B26
  have B26_vd := B25_vd.keep K26 (ninS ne_vd_b18 nin0)
  have B26_b13 := B25_b13.keep K26 (ninS ne_b13_b18 nin0)
  have Zn26 : n0 ≤ h26.size := Nat.le_trans Zn25 K26.1
  refine own_st (f' := (mkF m 113 #[.val (.int p0), .val (.int p1), .val (.int p2), .val (.ref b13), .val (.int (own_t0_36 p0 p1 p2)), .val (.int (own_t0_49 p0 p1 p2)), .val (.int (own_t0_53 p0 p1 p2)), .val (.ref b18), .unset] [(.ref b18)])) (fun t k => XS.aload X26.her hx rfl (hb hby at_111) rfl rfl k) ?_
  refine own_st (f' := (mkF m 115 #[.val (.int p0), .val (.int p1), .val (.int p2), .val (.ref b13), .val (.int (own_t0_36 p0 p1 p2)), .val (.int (own_t0_49 p0 p1 p2)), .val (.int (own_t0_53 p0 p1 p2)), .val (.ref b18), .unset] [(.int (8 : Int32)), (.ref b18)])) (fun t k => XS.bipush X26.her hx rfl (hb hby at_113) k) ?_
  refine own_st (f' := (mkF m 117 #[.val (.int p0), .val (.int p1), .val (.int p2), .val (.ref b13), .val (.int (own_t0_36 p0 p1 p2)), .val (.int (own_t0_49 p0 p1 p2)), .val (.int (own_t0_53 p0 p1 p2)), .val (.ref b18), .unset] [(.int (own_t0_53 p0 p1 p2)), (.int (8 : Int32)), (.ref b18)])) (fun t k => XS.iload X26.her hx rfl (hb hby at_115) rfl k) ?_
  refine own_bstore X26 hx hZ B26 (by decide) (by show 8 < 10; decide) (hb hby at_117) ga_b18 (Or.inr q18) ?_
  intro T27 h27 X27 K27 W27 B27
  have S27_DIGITS := S26_DIGITS.wr W27
  rw [show ((own_t0_53 p0 p1 p2)).toInt8.toInt32 = (own_t0_53 p0 p1 p2) from own_b2 _] at B27
  replace B27 : own_B Z h27 b18 [(own_t0_53 p0 p1 p2), (own_t0_53 p0 p1 p2), (own_t0_53 p0 p1 p2), (own_t0_53 p0 p1 p2), (own_t0_53 p0 p1 p2), (own_t0_53 p0 p1 p2), (own_t0_53 p0 p1 p2), (own_t0_53 p0 p1 p2), (own_t0_53 p0 p1 p2), (0 : Int32)] := B27
  have B27_vd := B26_vd.keep K27 (ninS ne_vd_b18 nin0)
  have B27_b13 := B26_b13.keep K27 (ninS ne_b13_b18 nin0)
  have Zn27 : n0 ≤ h27.size := Nat.le_trans Zn26 K27.1
  refine own_st (f' := (mkF m 120 #[.val (.int p0), .val (.int p1), .val (.int p2), .val (.ref b13), .val (.int (own_t0_36 p0 p1 p2)), .val (.int (own_t0_49 p0 p1 p2)), .val (.int (own_t0_53 p0 p1 p2)), .val (.ref b18), .unset] [(.ref b18)])) (fun t k => XS.aload X27.her hx rfl (hb hby at_118) rfl rfl k) ?_
  refine own_st (f' := (mkF m 122 #[.val (.int p0), .val (.int p1), .val (.int p2), .val (.ref b13), .val (.int (own_t0_36 p0 p1 p2)), .val (.int (own_t0_49 p0 p1 p2)), .val (.int (own_t0_53 p0 p1 p2)), .val (.ref b18), .unset] [(.int (9 : Int32)), (.ref b18)])) (fun t k => XS.bipush X27.her hx rfl (hb hby at_120) k) ?_
  refine own_st (f' := (mkF m 124 #[.val (.int p0), .val (.int p1), .val (.int p2), .val (.ref b13), .val (.int (own_t0_36 p0 p1 p2)), .val (.int (own_t0_49 p0 p1 p2)), .val (.int (own_t0_53 p0 p1 p2)), .val (.ref b18), .unset] [(.int (own_t0_53 p0 p1 p2)), (.int (9 : Int32)), (.ref b18)])) (fun t k => XS.iload X27.her hx rfl (hb hby at_122) rfl k) ?_
  refine own_bstore X27 hx hZ B27 (by decide) (by show 9 < 10; decide) (hb hby at_124) ga_b18 (Or.inr q18) ?_
  intro T28 h28 X28 K28 W28 B28
  have S28_DIGITS := S27_DIGITS.wr W28
  rw [show ((own_t0_53 p0 p1 p2)).toInt8.toInt32 = (own_t0_53 p0 p1 p2) from own_b2 _] at B28
  replace B28 : own_B Z h28 b18 [(own_t0_53 p0 p1 p2), (own_t0_53 p0 p1 p2), (own_t0_53 p0 p1 p2), (own_t0_53 p0 p1 p2), (own_t0_53 p0 p1 p2), (own_t0_53 p0 p1 p2), (own_t0_53 p0 p1 p2), (own_t0_53 p0 p1 p2), (own_t0_53 p0 p1 p2), (own_t0_53 p0 p1 p2)] := B28
  have B28_vd := B27_vd.keep K28 (ninS ne_vd_b18 nin0)
  have B28_b13 := B27_b13.keep K28 (ninS ne_b13_b18 nin0)
  have Zn28 : n0 ≤ h28.size := Nat.le_trans Zn27 K28.1
  refine own_st (f' := (mkF m 126 #[.val (.int p0), .val (.int p1), .val (.int p2), .val (.ref b13), .val (.int (own_t0_36 p0 p1 p2)), .val (.int (own_t0_49 p0 p1 p2)), .val (.int (own_t0_53 p0 p1 p2)), .val (.ref b18), .unset] [(.ref b13)])) (fun t k => XS.aloadN X28.her hx rfl (hb hby at_125) rfl rfl k) ?_
  refine own_st (f' := (mkF m 128 #[.val (.int p0), .val (.int p1), .val (.int p2), .val (.ref b13), .val (.int (own_t0_36 p0 p1 p2)), .val (.int (own_t0_49 p0 p1 p2)), .val (.int (own_t0_53 p0 p1 p2)), .val (.ref b18), .unset] [(.int (own_t0_36 p0 p1 p2)), (.ref b13)])) (fun t k => XS.iload X28.her hx rfl (hb hby at_126) rfl k) ?_
  refine own_st (f' := (mkF m 130 #[.val (.int p0), .val (.int p1), .val (.int p2), .val (.ref b13), .val (.int (own_t0_36 p0 p1 p2)), .val (.int (own_t0_49 p0 p1 p2)), .val (.int (own_t0_53 p0 p1 p2)), .val (.ref b18), .unset] [(.int (own_t0_49 p0 p1 p2)), (.int (own_t0_36 p0 p1 p2)), (.ref b13)])) (fun t k => XS.iload X28.her hx rfl (hb hby at_128) rfl k) ?_
  refine own_st (f' := (mkF m 132 #[.val (.int p0), .val (.int p1), .val (.int p2), .val (.ref b13), .val (.int (own_t0_36 p0 p1 p2)), .val (.int (own_t0_49 p0 p1 p2)), .val (.int (own_t0_53 p0 p1 p2)), .val (.ref b18), .unset] [(.ref b18), (.int (own_t0_49 p0 p1 p2)), (.int (own_t0_36 p0 p1 p2)), (.ref b13)])) (fun t k => XS.aload X28.her hx rfl (hb hby at_130) rfl rfl k) ?_
  refine own_callS (y := (⟨"com/example/luoshu/luoshu/Hex", "encode", "([BII[B)V"⟩ : MethodName)) (W := 0) [(.ref b13), (.int (own_t0_36 p0 p1 p2)), (.int (own_t0_49 p0 p1 p2)), (.ref b18)] X28 hx hZ hown (own_w1 hw) (own_w2 hw) (own_w3 hw) (own_w4 hw) (by decide) (own_c1 l Z a0 hw h28 n0 Zn28 b13 (own_t0_36 p0 p1 p2) (own_t0_49 p0 p1 p2) b18 vd (own_L p0 p1 p2) (own_MM p0 p1 p2) B28_b13 B28_vd B28 S28_DIGITS ga_b18 ne_b13_b18 ne_vd_b18 (own_o p0 p1 p2).1 (own_ol p0 p1 p2) (own_n4 p0 p1 p2) (own_o4 p0 p1 p2) (by show 8 ≤ 10; decide)) (allS (Or.inr q18) all0) (by decide) (by decide) (by decide) (by decide) (by rw [hml]; rfl) own_pd1 rfl rfl (Nat.le_of_eq rfl) (hb hby at_132) ?_
  rintro v29 T29 h29 X29 K29 ⟨rfl, Bx29, By29⟩
  have B29_vd := B28_vd.keep K29 (ninS ne_vd_b18 nin0)
  have B29_b13 := B28_b13.keep K29 (ninS ne_b13_b18 nin0)
  have Zn29 : n0 ≤ h29.size := Nat.le_trans Zn28 K29.1
  show own_G p e below _ T29 (mkF m 135 #[.val (.int p0), .val (.int p1), .val (.int p2), .val (.ref b13), .val (.int (own_t0_36 p0 p1 p2)), .val (.int (own_t0_49 p0 p1 p2)), .val (.int (own_t0_53 p0 p1 p2)), .val (.ref b18), .unset] [])
  refine own_st (f' := (mkF m 136 #[.val (.int p0), .val (.int p1), .val (.int p2), .val (.ref b13), .val (.int (own_t0_36 p0 p1 p2)), .val (.int (own_t0_49 p0 p1 p2)), .val (.int (own_t0_53 p0 p1 p2)), .val (.ref b18), .unset] [(.ref b13)])) (fun t k => XS.aloadN X29.her hx rfl (hb hby at_135) rfl rfl k) ?_
  refine own_st (f' := (mkF m 137 #[.val (.int p0), .val (.int p1), .val (.int p2), .val (.ref b13), .val (.int (own_t0_36 p0 p1 p2)), .val (.int (own_t0_49 p0 p1 p2)), .val (.int (own_t0_53 p0 p1 p2)), .val (.ref b18), .unset] [(.int (0 : Int32)), (.ref b13)])) (fun t k => XS.iconst X29.her hx rfl (hb hby at_136) k) ?_
  refine own_bload (v := (p0.toInt8.toInt32)) X29 hx hZ Bx29 (by decide) rfl (hb hby at_137) ?_
  refine own_st (f' := (mkF m 139 #[.val (.int p0), .val (.int p1), .val (.int p2), .val (.ref b13), .val (.int (own_t0_36 p0 p1 p2)), .val (.int (own_t0_49 p0 p1 p2)), .val (.int (own_t0_53 p0 p1 p2)), .val (.ref b18), .unset] [(.int p0), (.int (p0.toInt8.toInt32))])) (fun t k => XS.iloadN X29.her hx rfl (hb hby at_138) rfl k) ?_
  refine own_st (f' := (mkF m 140 #[.val (.int p0), .val (.int p1), .val (.int p2), .val (.ref b13), .val (.int (own_t0_36 p0 p1 p2)), .val (.int (own_t0_49 p0 p1 p2)), .val (.int (own_t0_53 p0 p1 p2)), .val (.ref b18), .unset] [(.int (p0.toInt8.toInt32)), (.int (p0.toInt8.toInt32))])) (fun t k => XS.i2b X29.her hx rfl (hb hby at_139) rfl k) ?_
  refine own_st (f' := (mkF m 143 #[.val (.int p0), .val (.int p1), .val (.int p2), .val (.ref b13), .val (.int (own_t0_36 p0 p1 p2)), .val (.int (own_t0_49 p0 p1 p2)), .val (.int (own_t0_53 p0 p1 p2)), .val (.ref b18), .unset] [])) (fun t k => XS.icmpNo X29.her hx rfl (hb hby at_140) rfl (teq (rfl : (p0.toInt8.toInt32) = (p0.toInt8.toInt32))).2 k) ?_
  refine own_st (f' := (mkF m 144 #[.val (.int p0), .val (.int p1), .val (.int p2), .val (.ref b13), .val (.int (own_t0_36 p0 p1 p2)), .val (.int (own_t0_49 p0 p1 p2)), .val (.int (own_t0_53 p0 p1 p2)), .val (.ref b18), .unset] [(.ref b13)])) (fun t k => XS.aloadN X29.her hx rfl (hb hby at_143) rfl rfl k) ?_
  refine own_st (f' := (mkF m 145 #[.val (.int p0), .val (.int p1), .val (.int p2), .val (.ref b13), .val (.int (own_t0_36 p0 p1 p2)), .val (.int (own_t0_49 p0 p1 p2)), .val (.int (own_t0_53 p0 p1 p2)), .val (.ref b18), .unset] [(.int (1 : Int32)), (.ref b13)])) (fun t k => XS.iconst X29.her hx rfl (hb hby at_144) k) ?_
  refine own_bload (v := ((p0 >>> ((8 : Int32) &&& 31)).toInt8.toInt32)) X29 hx hZ Bx29 (by decide) rfl (hb hby at_145) ?_
  refine own_st (f' := (mkF m 147 #[.val (.int p0), .val (.int p1), .val (.int p2), .val (.ref b13), .val (.int (own_t0_36 p0 p1 p2)), .val (.int (own_t0_49 p0 p1 p2)), .val (.int (own_t0_53 p0 p1 p2)), .val (.ref b18), .unset] [(.int p0), (.int ((p0 >>> ((8 : Int32) &&& 31)).toInt8.toInt32))])) (fun t k => XS.iloadN X29.her hx rfl (hb hby at_146) rfl k) ?_
  refine own_st (f' := (mkF m 149 #[.val (.int p0), .val (.int p1), .val (.int p2), .val (.ref b13), .val (.int (own_t0_36 p0 p1 p2)), .val (.int (own_t0_49 p0 p1 p2)), .val (.int (own_t0_53 p0 p1 p2)), .val (.ref b18), .unset] [(.int (8 : Int32)), (.int p0), (.int ((p0 >>> ((8 : Int32) &&& 31)).toInt8.toInt32))])) (fun t k => XS.bipush X29.her hx rfl (hb hby at_147) k) ?_
  refine own_st (f' := (mkF m 150 #[.val (.int p0), .val (.int p1), .val (.int p2), .val (.ref b13), .val (.int (own_t0_36 p0 p1 p2)), .val (.int (own_t0_49 p0 p1 p2)), .val (.int (own_t0_53 p0 p1 p2)), .val (.ref b18), .unset] [(.int (p0 >>> ((8 : Int32) &&& 31))), (.int ((p0 >>> ((8 : Int32) &&& 31)).toInt8.toInt32))])) (fun t k => XS.ishr X29.her hx rfl (hb hby at_149) rfl k) ?_
  refine own_st (f' := (mkF m 151 #[.val (.int p0), .val (.int p1), .val (.int p2), .val (.ref b13), .val (.int (own_t0_36 p0 p1 p2)), .val (.int (own_t0_49 p0 p1 p2)), .val (.int (own_t0_53 p0 p1 p2)), .val (.ref b18), .unset] [(.int ((p0 >>> ((8 : Int32) &&& 31)).toInt8.toInt32)), (.int ((p0 >>> ((8 : Int32) &&& 31)).toInt8.toInt32))])) (fun t k => XS.i2b X29.her hx rfl (hb hby at_150) rfl k) ?_
  refine own_st (f' := (mkF m 154 #[.val (.int p0), .val (.int p1), .val (.int p2), .val (.ref b13), .val (.int (own_t0_36 p0 p1 p2)), .val (.int (own_t0_49 p0 p1 p2)), .val (.int (own_t0_53 p0 p1 p2)), .val (.ref b18), .unset] [])) (fun t k => XS.icmpNo X29.her hx rfl (hb hby at_151) rfl (teq (rfl : ((p0 >>> ((8 : Int32) &&& 31)).toInt8.toInt32) = ((p0 >>> ((8 : Int32) &&& 31)).toInt8.toInt32))).2 k) ?_
  refine own_st (f' := (mkF m 155 #[.val (.int p0), .val (.int p1), .val (.int p2), .val (.ref b13), .val (.int (own_t0_36 p0 p1 p2)), .val (.int (own_t0_49 p0 p1 p2)), .val (.int (own_t0_53 p0 p1 p2)), .val (.ref b18), .unset] [(.ref b13)])) (fun t k => XS.aloadN X29.her hx rfl (hb hby at_154) rfl rfl k) ?_
  refine own_st (f' := (mkF m 156 #[.val (.int p0), .val (.int p1), .val (.int p2), .val (.ref b13), .val (.int (own_t0_36 p0 p1 p2)), .val (.int (own_t0_49 p0 p1 p2)), .val (.int (own_t0_53 p0 p1 p2)), .val (.ref b18), .unset] [(.int (2 : Int32)), (.ref b13)])) (fun t k => XS.iconst X29.her hx rfl (hb hby at_155) k) ?_
  refine own_bload (v := ((p0 >>> ((16 : Int32) &&& 31)).toInt8.toInt32)) X29 hx hZ Bx29 (by decide) rfl (hb hby at_156) ?_
  refine own_st (f' := (mkF m 158 #[.val (.int p0), .val (.int p1), .val (.int p2), .val (.ref b13), .val (.int (own_t0_36 p0 p1 p2)), .val (.int (own_t0_49 p0 p1 p2)), .val (.int (own_t0_53 p0 p1 p2)), .val (.ref b18), .unset] [(.int p0), (.int ((p0 >>> ((16 : Int32) &&& 31)).toInt8.toInt32))])) (fun t k => XS.iloadN X29.her hx rfl (hb hby at_157) rfl k) ?_
  refine own_st (f' := (mkF m 160 #[.val (.int p0), .val (.int p1), .val (.int p2), .val (.ref b13), .val (.int (own_t0_36 p0 p1 p2)), .val (.int (own_t0_49 p0 p1 p2)), .val (.int (own_t0_53 p0 p1 p2)), .val (.ref b18), .unset] [(.int (16 : Int32)), (.int p0), (.int ((p0 >>> ((16 : Int32) &&& 31)).toInt8.toInt32))])) (fun t k => XS.bipush X29.her hx rfl (hb hby at_158) k) ?_
  refine own_st (f' := (mkF m 161 #[.val (.int p0), .val (.int p1), .val (.int p2), .val (.ref b13), .val (.int (own_t0_36 p0 p1 p2)), .val (.int (own_t0_49 p0 p1 p2)), .val (.int (own_t0_53 p0 p1 p2)), .val (.ref b18), .unset] [(.int (p0 >>> ((16 : Int32) &&& 31))), (.int ((p0 >>> ((16 : Int32) &&& 31)).toInt8.toInt32))])) (fun t k => XS.ishr X29.her hx rfl (hb hby at_160) rfl k) ?_
  refine own_st (f' := (mkF m 162 #[.val (.int p0), .val (.int p1), .val (.int p2), .val (.ref b13), .val (.int (own_t0_36 p0 p1 p2)), .val (.int (own_t0_49 p0 p1 p2)), .val (.int (own_t0_53 p0 p1 p2)), .val (.ref b18), .unset] [(.int ((p0 >>> ((16 : Int32) &&& 31)).toInt8.toInt32)), (.int ((p0 >>> ((16 : Int32) &&& 31)).toInt8.toInt32))])) (fun t k => XS.i2b X29.her hx rfl (hb hby at_161) rfl k) ?_
  refine own_st (f' := (mkF m 165 #[.val (.int p0), .val (.int p1), .val (.int p2), .val (.ref b13), .val (.int (own_t0_36 p0 p1 p2)), .val (.int (own_t0_49 p0 p1 p2)), .val (.int (own_t0_53 p0 p1 p2)), .val (.ref b18), .unset] [])) (fun t k => XS.icmpNo X29.her hx rfl (hb hby at_162) rfl (teq (rfl : ((p0 >>> ((16 : Int32) &&& 31)).toInt8.toInt32) = ((p0 >>> ((16 : Int32) &&& 31)).toInt8.toInt32))).2 k) ?_
  refine own_st (f' := (mkF m 166 #[.val (.int p0), .val (.int p1), .val (.int p2), .val (.ref b13), .val (.int (own_t0_36 p0 p1 p2)), .val (.int (own_t0_49 p0 p1 p2)), .val (.int (own_t0_53 p0 p1 p2)), .val (.ref b18), .unset] [(.ref b13)])) (fun t k => XS.aloadN X29.her hx rfl (hb hby at_165) rfl rfl k) ?_
  refine own_st (f' := (mkF m 167 #[.val (.int p0), .val (.int p1), .val (.int p2), .val (.ref b13), .val (.int (own_t0_36 p0 p1 p2)), .val (.int (own_t0_49 p0 p1 p2)), .val (.int (own_t0_53 p0 p1 p2)), .val (.ref b18), .unset] [(.int (3 : Int32)), (.ref b13)])) (fun t k => XS.iconst X29.her hx rfl (hb hby at_166) k) ?_
  refine own_bload (v := ((p0 >>> ((24 : Int32) &&& 31)).toInt8.toInt32)) X29 hx hZ Bx29 (by decide) rfl (hb hby at_167) ?_
  refine own_st (f' := (mkF m 169 #[.val (.int p0), .val (.int p1), .val (.int p2), .val (.ref b13), .val (.int (own_t0_36 p0 p1 p2)), .val (.int (own_t0_49 p0 p1 p2)), .val (.int (own_t0_53 p0 p1 p2)), .val (.ref b18), .unset] [(.int p0), (.int ((p0 >>> ((24 : Int32) &&& 31)).toInt8.toInt32))])) (fun t k => XS.iloadN X29.her hx rfl (hb hby at_168) rfl k) ?_
  refine own_st (f' := (mkF m 171 #[.val (.int p0), .val (.int p1), .val (.int p2), .val (.ref b13), .val (.int (own_t0_36 p0 p1 p2)), .val (.int (own_t0_49 p0 p1 p2)), .val (.int (own_t0_53 p0 p1 p2)), .val (.ref b18), .unset] [(.int (24 : Int32)), (.int p0), (.int ((p0 >>> ((24 : Int32) &&& 31)).toInt8.toInt32))])) (fun t k => XS.bipush X29.her hx rfl (hb hby at_169) k) ?_
  refine own_st (f' := (mkF m 172 #[.val (.int p0), .val (.int p1), .val (.int p2), .val (.ref b13), .val (.int (own_t0_36 p0 p1 p2)), .val (.int (own_t0_49 p0 p1 p2)), .val (.int (own_t0_53 p0 p1 p2)), .val (.ref b18), .unset] [(.int (p0 >>> ((24 : Int32) &&& 31))), (.int ((p0 >>> ((24 : Int32) &&& 31)).toInt8.toInt32))])) (fun t k => XS.ishr X29.her hx rfl (hb hby at_171) rfl k) ?_
  refine own_st (f' := (mkF m 173 #[.val (.int p0), .val (.int p1), .val (.int p2), .val (.ref b13), .val (.int (own_t0_36 p0 p1 p2)), .val (.int (own_t0_49 p0 p1 p2)), .val (.int (own_t0_53 p0 p1 p2)), .val (.ref b18), .unset] [(.int ((p0 >>> ((24 : Int32) &&& 31)).toInt8.toInt32)), (.int ((p0 >>> ((24 : Int32) &&& 31)).toInt8.toInt32))])) (fun t k => XS.i2b X29.her hx rfl (hb hby at_172) rfl k) ?_
  refine own_st (f' := (mkF m 176 #[.val (.int p0), .val (.int p1), .val (.int p2), .val (.ref b13), .val (.int (own_t0_36 p0 p1 p2)), .val (.int (own_t0_49 p0 p1 p2)), .val (.int (own_t0_53 p0 p1 p2)), .val (.ref b18), .unset] [])) (fun t k => XS.icmpNo X29.her hx rfl (hb hby at_173) rfl (teq (rfl : ((p0 >>> ((24 : Int32) &&& 31)).toInt8.toInt32) = ((p0 >>> ((24 : Int32) &&& 31)).toInt8.toInt32))).2 k) ?_
  refine own_st (f' := (mkF m 177 #[.val (.int p0), .val (.int p1), .val (.int p2), .val (.ref b13), .val (.int (own_t0_36 p0 p1 p2)), .val (.int (own_t0_49 p0 p1 p2)), .val (.int (own_t0_53 p0 p1 p2)), .val (.ref b18), .unset] [(.int (1 : Int32))])) (fun t k => XS.iconst X29.her hx rfl (hb hby at_176) k) ?_
  refine own_st (f' := (mkF m 181 #[.val (.int p0), .val (.int p1), .val (.int p2), .val (.ref b13), .val (.int (own_t0_36 p0 p1 p2)), .val (.int (own_t0_49 p0 p1 p2)), .val (.int (own_t0_53 p0 p1 p2)), .val (.ref b18), .unset] [(.int (1 : Int32))])) (fun t k => XS.goto X29.her hx rfl (pc0 := 177) (pc' := 181) rfl (hb hby at_177) (by decide) (by decide) k) ?_
  refine own_st (f' := (mkF m 183 #[.val (.int p0), .val (.int p1), .val (.int p2), .val (.ref b13), .val (.int (own_t0_36 p0 p1 p2)), .val (.int (own_t0_49 p0 p1 p2)), .val (.int (own_t0_53 p0 p1 p2)), .val (.ref b18), .val (.int (1 : Int32))] [])) (fun t k => XS.istore X29.her hx rfl (hb hby at_181) rfl (l' := #[.val (.int p0), .val (.int p1), .val (.int p2), .val (.ref b13), .val (.int (own_t0_36 p0 p1 p2)), .val (.int (own_t0_49 p0 p1 p2)), .val (.int (own_t0_53 p0 p1 p2)), .val (.ref b18), .val (.int (1 : Int32))]) rfl k) ?_
  refine own_st (f' := (mkF m 185 #[.val (.int p0), .val (.int p1), .val (.int p2), .val (.ref b13), .val (.int (own_t0_36 p0 p1 p2)), .val (.int (own_t0_49 p0 p1 p2)), .val (.int (own_t0_53 p0 p1 p2)), .val (.ref b18), .val (.int (1 : Int32))] [(.int (1 : Int32))])) (fun t k => XS.iload X29.her hx rfl (hb hby at_183) rfl k) ?_
  refine own_st (f' := (mkF m 188 #[.val (.int p0), .val (.int p1), .val (.int p2), .val (.ref b13), .val (.int (own_t0_36 p0 p1 p2)), .val (.int (own_t0_49 p0 p1 p2)), .val (.int (own_t0_53 p0 p1 p2)), .val (.ref b18), .val (.int (1 : Int32))] [])) (fun t k => XS.ifNo X29.her hx rfl (hb hby at_185) rfl ((if0 _ _).trans (feq (by decide : ¬ ((1 : Int32) = (0 : Int32)))).1) k) ?_
  refine own_st (f' := (mkF m 189 #[.val (.int p0), .val (.int p1), .val (.int p2), .val (.ref b13), .val (.int (own_t0_36 p0 p1 p2)), .val (.int (own_t0_49 p0 p1 p2)), .val (.int (own_t0_53 p0 p1 p2)), .val (.ref b18), .val (.int (1 : Int32))] [(.ref b13)])) (fun t k => XS.aloadN X29.her hx rfl (hb hby at_188) rfl rfl k) ?_
  refine own_st (f' := (mkF m 191 #[.val (.int p0), .val (.int p1), .val (.int p2), .val (.ref b13), .val (.int (own_t0_36 p0 p1 p2)), .val (.int (own_t0_49 p0 p1 p2)), .val (.int (own_t0_53 p0 p1 p2)), .val (.ref b18), .val (.int (1 : Int32))] [(.int (own_t0_36 p0 p1 p2)), (.ref b13)])) (fun t k => XS.iload X29.her hx rfl (hb hby at_189) rfl k) ?_
  refine own_st (f' := (mkF m 193 #[.val (.int p0), .val (.int p1), .val (.int p2), .val (.ref b13), .val (.int (own_t0_36 p0 p1 p2)), .val (.int (own_t0_49 p0 p1 p2)), .val (.int (own_t0_53 p0 p1 p2)), .val (.ref b18), .val (.int (1 : Int32))] [(.int (own_t0_49 p0 p1 p2)), (.int (own_t0_36 p0 p1 p2)), (.ref b13)])) (fun t k => XS.iload X29.her hx rfl (hb hby at_191) rfl k) ?_
  refine own_st (f' := (mkF m 195 #[.val (.int p0), .val (.int p1), .val (.int p2), .val (.ref b13), .val (.int (own_t0_36 p0 p1 p2)), .val (.int (own_t0_49 p0 p1 p2)), .val (.int (own_t0_53 p0 p1 p2)), .val (.ref b18), .val (.int (1 : Int32))] [(.ref b18), (.int (own_t0_49 p0 p1 p2)), (.int (own_t0_36 p0 p1 p2)), (.ref b13)])) (fun t k => XS.aload X29.her hx rfl (hb hby at_193) rfl rfl k) ?_
  refine own_st (f' := (mkF m 197 #[.val (.int p0), .val (.int p1), .val (.int p2), .val (.ref b13), .val (.int (own_t0_36 p0 p1 p2)), .val (.int (own_t0_49 p0 p1 p2)), .val (.int (own_t0_53 p0 p1 p2)), .val (.ref b18), .val (.int (1 : Int32))] [(.int (own_t0_53 p0 p1 p2)), (.ref b18), (.int (own_t0_49 p0 p1 p2)), (.int (own_t0_36 p0 p1 p2)), (.ref b13)])) (fun t k => XS.iload X29.her hx rfl (hb hby at_195) rfl k) ?_
  refine own_st (f' := (mkF m 198 #[.val (.int p0), .val (.int p1), .val (.int p2), .val (.ref b13), .val (.int (own_t0_36 p0 p1 p2)), .val (.int (own_t0_49 p0 p1 p2)), .val (.int (own_t0_53 p0 p1 p2)), .val (.ref b18), .val (.int (1 : Int32))] [(.int (0 : Int32)), (.int (own_t0_53 p0 p1 p2)), (.ref b18), (.int (own_t0_49 p0 p1 p2)), (.int (own_t0_36 p0 p1 p2)), (.ref b13)])) (fun t k => XS.iconst X29.her hx rfl (hb hby at_197) k) ?_
  refine own_callSP (y := (⟨"com/example/luoshu/luoshu/HexEncodePinLaw", "pair", "([BII[BBI)Z"⟩ : MethodName)) (W := 0) [(.ref b13), (.int (own_t0_36 p0 p1 p2)), (.int (own_t0_49 p0 p1 p2)), (.ref b18), (.int (own_t0_53 p0 p1 p2)), (.int (0 : Int32))] X29 hx hZ hown (own_w5 hw) (own_w6 hw) (own_w7 hw) (own_w8 hw) (by decide) (own_c2 l Z a0 hw h29 n0 Zn29 b13 (own_t0_36 p0 p1 p2) (own_t0_49 p0 p1 p2) b18 (own_t0_53 p0 p1 p2) (0 : Int32) (own_L p0 p1 p2) (own_enc (own_L p0 p1 p2) (own_t0_36 p0 p1 p2) (((own_t0_49 p0 p1 p2).toInt - (0 : Int32).toInt).toNat) (0 : Int32) (own_MM p0 p1 p2)) Bx29 By29 (by decide) (by rw [own_enc_len]; show 0 < 10; decide) (by decide) (by rw [own_enc_len]; show 1 < 10; decide) (own_ix p0 p1 p2 ⟨0, by decide⟩)) (by decide) (by decide) (by decide) (by decide) (by rw [hml]; rfl) own_pd2 rfl rfl (Nat.le_of_eq rfl) (hb hby at_198) ?_
  intro T30 X30
  show own_G p e below _ T30 (mkF m 201 #[.val (.int p0), .val (.int p1), .val (.int p2), .val (.ref b13), .val (.int (own_t0_36 p0 p1 p2)), .val (.int (own_t0_49 p0 p1 p2)), .val (.int (own_t0_53 p0 p1 p2)), .val (.ref b18), .val (.int (1 : Int32))] [(.int (own_F2 (own_t0_36 p0 p1 p2) (own_t0_49 p0 p1 p2) (own_t0_53 p0 p1 p2) (0 : Int32) (own_L p0 p1 p2) (own_enc (own_L p0 p1 p2) (own_t0_36 p0 p1 p2) (((own_t0_49 p0 p1 p2).toInt - (0 : Int32).toInt).toNat) (0 : Int32) (own_MM p0 p1 p2))))])
  refine own_st (f' := (mkF m 204 #[.val (.int p0), .val (.int p1), .val (.int p2), .val (.ref b13), .val (.int (own_t0_36 p0 p1 p2)), .val (.int (own_t0_49 p0 p1 p2)), .val (.int (own_t0_53 p0 p1 p2)), .val (.ref b18), .val (.int (1 : Int32))] [])) (fun t k => XS.ifNo X30.her hx rfl (hb hby at_201) rfl ((if0 _ _).trans (feq (own_one (own_pair p0 p1 p2 ⟨0, by decide⟩) : ¬ ((own_F2 (own_t0_36 p0 p1 p2) (own_t0_49 p0 p1 p2) (own_t0_53 p0 p1 p2) (0 : Int32) (own_L p0 p1 p2) (own_enc (own_L p0 p1 p2) (own_t0_36 p0 p1 p2) (((own_t0_49 p0 p1 p2).toInt - (0 : Int32).toInt).toNat) (0 : Int32) (own_MM p0 p1 p2))) = (0 : Int32)))).1) k) ?_
  refine own_st (f' := (mkF m 205 #[.val (.int p0), .val (.int p1), .val (.int p2), .val (.ref b13), .val (.int (own_t0_36 p0 p1 p2)), .val (.int (own_t0_49 p0 p1 p2)), .val (.int (own_t0_53 p0 p1 p2)), .val (.ref b18), .val (.int (1 : Int32))] [(.int (1 : Int32))])) (fun t k => XS.iconst X30.her hx rfl (hb hby at_204) k) ?_
  refine own_st (f' := (mkF m 209 #[.val (.int p0), .val (.int p1), .val (.int p2), .val (.ref b13), .val (.int (own_t0_36 p0 p1 p2)), .val (.int (own_t0_49 p0 p1 p2)), .val (.int (own_t0_53 p0 p1 p2)), .val (.ref b18), .val (.int (1 : Int32))] [(.int (1 : Int32))])) (fun t k => XS.goto X30.her hx rfl (pc0 := 205) (pc' := 209) rfl (hb hby at_205) (by decide) (by decide) k) ?_
  refine own_st (f' := (mkF m 211 #[.val (.int p0), .val (.int p1), .val (.int p2), .val (.ref b13), .val (.int (own_t0_36 p0 p1 p2)), .val (.int (own_t0_49 p0 p1 p2)), .val (.int (own_t0_53 p0 p1 p2)), .val (.ref b18), .val (.int (1 : Int32))] [])) (fun t k => XS.istore X30.her hx rfl (hb hby at_209) rfl (l' := #[.val (.int p0), .val (.int p1), .val (.int p2), .val (.ref b13), .val (.int (own_t0_36 p0 p1 p2)), .val (.int (own_t0_49 p0 p1 p2)), .val (.int (own_t0_53 p0 p1 p2)), .val (.ref b18), .val (.int (1 : Int32))]) rfl k) ?_
  refine own_st (f' := (mkF m 213 #[.val (.int p0), .val (.int p1), .val (.int p2), .val (.ref b13), .val (.int (own_t0_36 p0 p1 p2)), .val (.int (own_t0_49 p0 p1 p2)), .val (.int (own_t0_53 p0 p1 p2)), .val (.ref b18), .val (.int (1 : Int32))] [(.int (1 : Int32))])) (fun t k => XS.iload X30.her hx rfl (hb hby at_211) rfl k) ?_
  refine own_st (f' := (mkF m 216 #[.val (.int p0), .val (.int p1), .val (.int p2), .val (.ref b13), .val (.int (own_t0_36 p0 p1 p2)), .val (.int (own_t0_49 p0 p1 p2)), .val (.int (own_t0_53 p0 p1 p2)), .val (.ref b18), .val (.int (1 : Int32))] [])) (fun t k => XS.ifNo X30.her hx rfl (hb hby at_213) rfl ((if0 _ _).trans (feq (by decide : ¬ ((1 : Int32) = (0 : Int32)))).1) k) ?_
  refine own_st (f' := (mkF m 217 #[.val (.int p0), .val (.int p1), .val (.int p2), .val (.ref b13), .val (.int (own_t0_36 p0 p1 p2)), .val (.int (own_t0_49 p0 p1 p2)), .val (.int (own_t0_53 p0 p1 p2)), .val (.ref b18), .val (.int (1 : Int32))] [(.ref b13)])) (fun t k => XS.aloadN X30.her hx rfl (hb hby at_216) rfl rfl k) ?_
  refine own_st (f' := (mkF m 219 #[.val (.int p0), .val (.int p1), .val (.int p2), .val (.ref b13), .val (.int (own_t0_36 p0 p1 p2)), .val (.int (own_t0_49 p0 p1 p2)), .val (.int (own_t0_53 p0 p1 p2)), .val (.ref b18), .val (.int (1 : Int32))] [(.int (own_t0_36 p0 p1 p2)), (.ref b13)])) (fun t k => XS.iload X30.her hx rfl (hb hby at_217) rfl k) ?_
  refine own_st (f' := (mkF m 221 #[.val (.int p0), .val (.int p1), .val (.int p2), .val (.ref b13), .val (.int (own_t0_36 p0 p1 p2)), .val (.int (own_t0_49 p0 p1 p2)), .val (.int (own_t0_53 p0 p1 p2)), .val (.ref b18), .val (.int (1 : Int32))] [(.int (own_t0_49 p0 p1 p2)), (.int (own_t0_36 p0 p1 p2)), (.ref b13)])) (fun t k => XS.iload X30.her hx rfl (hb hby at_219) rfl k) ?_
  refine own_st (f' := (mkF m 223 #[.val (.int p0), .val (.int p1), .val (.int p2), .val (.ref b13), .val (.int (own_t0_36 p0 p1 p2)), .val (.int (own_t0_49 p0 p1 p2)), .val (.int (own_t0_53 p0 p1 p2)), .val (.ref b18), .val (.int (1 : Int32))] [(.ref b18), (.int (own_t0_49 p0 p1 p2)), (.int (own_t0_36 p0 p1 p2)), (.ref b13)])) (fun t k => XS.aload X30.her hx rfl (hb hby at_221) rfl rfl k) ?_
  refine own_st (f' := (mkF m 225 #[.val (.int p0), .val (.int p1), .val (.int p2), .val (.ref b13), .val (.int (own_t0_36 p0 p1 p2)), .val (.int (own_t0_49 p0 p1 p2)), .val (.int (own_t0_53 p0 p1 p2)), .val (.ref b18), .val (.int (1 : Int32))] [(.int (own_t0_53 p0 p1 p2)), (.ref b18), (.int (own_t0_49 p0 p1 p2)), (.int (own_t0_36 p0 p1 p2)), (.ref b13)])) (fun t k => XS.iload X30.her hx rfl (hb hby at_223) rfl k) ?_
  refine own_st (f' := (mkF m 226 #[.val (.int p0), .val (.int p1), .val (.int p2), .val (.ref b13), .val (.int (own_t0_36 p0 p1 p2)), .val (.int (own_t0_49 p0 p1 p2)), .val (.int (own_t0_53 p0 p1 p2)), .val (.ref b18), .val (.int (1 : Int32))] [(.int (1 : Int32)), (.int (own_t0_53 p0 p1 p2)), (.ref b18), (.int (own_t0_49 p0 p1 p2)), (.int (own_t0_36 p0 p1 p2)), (.ref b13)])) (fun t k => XS.iconst X30.her hx rfl (hb hby at_225) k) ?_
  refine own_callSP (y := (⟨"com/example/luoshu/luoshu/HexEncodePinLaw", "pair", "([BII[BBI)Z"⟩ : MethodName)) (W := 0) [(.ref b13), (.int (own_t0_36 p0 p1 p2)), (.int (own_t0_49 p0 p1 p2)), (.ref b18), (.int (own_t0_53 p0 p1 p2)), (.int (1 : Int32))] X30 hx hZ hown (own_w5 hw) (own_w6 hw) (own_w7 hw) (own_w8 hw) (by decide) (own_c2 l Z a0 hw h29 n0 Zn29 b13 (own_t0_36 p0 p1 p2) (own_t0_49 p0 p1 p2) b18 (own_t0_53 p0 p1 p2) (1 : Int32) (own_L p0 p1 p2) (own_enc (own_L p0 p1 p2) (own_t0_36 p0 p1 p2) (((own_t0_49 p0 p1 p2).toInt - (0 : Int32).toInt).toNat) (0 : Int32) (own_MM p0 p1 p2)) Bx29 By29 (by decide) (by rw [own_enc_len]; show 2 < 10; decide) (by decide) (by rw [own_enc_len]; show 3 < 10; decide) (own_ix p0 p1 p2 ⟨1, by decide⟩)) (by decide) (by decide) (by decide) (by decide) (by rw [hml]; rfl) own_pd2 rfl rfl (Nat.le_of_eq rfl) (hb hby at_226) ?_
  intro T31 X31
  show own_G p e below _ T31 (mkF m 229 #[.val (.int p0), .val (.int p1), .val (.int p2), .val (.ref b13), .val (.int (own_t0_36 p0 p1 p2)), .val (.int (own_t0_49 p0 p1 p2)), .val (.int (own_t0_53 p0 p1 p2)), .val (.ref b18), .val (.int (1 : Int32))] [(.int (own_F2 (own_t0_36 p0 p1 p2) (own_t0_49 p0 p1 p2) (own_t0_53 p0 p1 p2) (1 : Int32) (own_L p0 p1 p2) (own_enc (own_L p0 p1 p2) (own_t0_36 p0 p1 p2) (((own_t0_49 p0 p1 p2).toInt - (0 : Int32).toInt).toNat) (0 : Int32) (own_MM p0 p1 p2))))])
  refine own_st (f' := (mkF m 232 #[.val (.int p0), .val (.int p1), .val (.int p2), .val (.ref b13), .val (.int (own_t0_36 p0 p1 p2)), .val (.int (own_t0_49 p0 p1 p2)), .val (.int (own_t0_53 p0 p1 p2)), .val (.ref b18), .val (.int (1 : Int32))] [])) (fun t k => XS.ifNo X31.her hx rfl (hb hby at_229) rfl ((if0 _ _).trans (feq (own_one (own_pair p0 p1 p2 ⟨1, by decide⟩) : ¬ ((own_F2 (own_t0_36 p0 p1 p2) (own_t0_49 p0 p1 p2) (own_t0_53 p0 p1 p2) (1 : Int32) (own_L p0 p1 p2) (own_enc (own_L p0 p1 p2) (own_t0_36 p0 p1 p2) (((own_t0_49 p0 p1 p2).toInt - (0 : Int32).toInt).toNat) (0 : Int32) (own_MM p0 p1 p2))) = (0 : Int32)))).1) k) ?_
  refine own_st (f' := (mkF m 233 #[.val (.int p0), .val (.int p1), .val (.int p2), .val (.ref b13), .val (.int (own_t0_36 p0 p1 p2)), .val (.int (own_t0_49 p0 p1 p2)), .val (.int (own_t0_53 p0 p1 p2)), .val (.ref b18), .val (.int (1 : Int32))] [(.int (1 : Int32))])) (fun t k => XS.iconst X31.her hx rfl (hb hby at_232) k) ?_
  refine own_st (f' := (mkF m 237 #[.val (.int p0), .val (.int p1), .val (.int p2), .val (.ref b13), .val (.int (own_t0_36 p0 p1 p2)), .val (.int (own_t0_49 p0 p1 p2)), .val (.int (own_t0_53 p0 p1 p2)), .val (.ref b18), .val (.int (1 : Int32))] [(.int (1 : Int32))])) (fun t k => XS.goto X31.her hx rfl (pc0 := 233) (pc' := 237) rfl (hb hby at_233) (by decide) (by decide) k) ?_
  refine own_st (f' := (mkF m 239 #[.val (.int p0), .val (.int p1), .val (.int p2), .val (.ref b13), .val (.int (own_t0_36 p0 p1 p2)), .val (.int (own_t0_49 p0 p1 p2)), .val (.int (own_t0_53 p0 p1 p2)), .val (.ref b18), .val (.int (1 : Int32))] [])) (fun t k => XS.istore X31.her hx rfl (hb hby at_237) rfl (l' := #[.val (.int p0), .val (.int p1), .val (.int p2), .val (.ref b13), .val (.int (own_t0_36 p0 p1 p2)), .val (.int (own_t0_49 p0 p1 p2)), .val (.int (own_t0_53 p0 p1 p2)), .val (.ref b18), .val (.int (1 : Int32))]) rfl k) ?_
  refine own_st (f' := (mkF m 241 #[.val (.int p0), .val (.int p1), .val (.int p2), .val (.ref b13), .val (.int (own_t0_36 p0 p1 p2)), .val (.int (own_t0_49 p0 p1 p2)), .val (.int (own_t0_53 p0 p1 p2)), .val (.ref b18), .val (.int (1 : Int32))] [(.int (1 : Int32))])) (fun t k => XS.iload X31.her hx rfl (hb hby at_239) rfl k) ?_
  refine own_st (f' := (mkF m 244 #[.val (.int p0), .val (.int p1), .val (.int p2), .val (.ref b13), .val (.int (own_t0_36 p0 p1 p2)), .val (.int (own_t0_49 p0 p1 p2)), .val (.int (own_t0_53 p0 p1 p2)), .val (.ref b18), .val (.int (1 : Int32))] [])) (fun t k => XS.ifNo X31.her hx rfl (hb hby at_241) rfl ((if0 _ _).trans (feq (by decide : ¬ ((1 : Int32) = (0 : Int32)))).1) k) ?_
  refine own_st (f' := (mkF m 245 #[.val (.int p0), .val (.int p1), .val (.int p2), .val (.ref b13), .val (.int (own_t0_36 p0 p1 p2)), .val (.int (own_t0_49 p0 p1 p2)), .val (.int (own_t0_53 p0 p1 p2)), .val (.ref b18), .val (.int (1 : Int32))] [(.ref b13)])) (fun t k => XS.aloadN X31.her hx rfl (hb hby at_244) rfl rfl k) ?_
  refine own_st (f' := (mkF m 247 #[.val (.int p0), .val (.int p1), .val (.int p2), .val (.ref b13), .val (.int (own_t0_36 p0 p1 p2)), .val (.int (own_t0_49 p0 p1 p2)), .val (.int (own_t0_53 p0 p1 p2)), .val (.ref b18), .val (.int (1 : Int32))] [(.int (own_t0_36 p0 p1 p2)), (.ref b13)])) (fun t k => XS.iload X31.her hx rfl (hb hby at_245) rfl k) ?_
  refine own_st (f' := (mkF m 249 #[.val (.int p0), .val (.int p1), .val (.int p2), .val (.ref b13), .val (.int (own_t0_36 p0 p1 p2)), .val (.int (own_t0_49 p0 p1 p2)), .val (.int (own_t0_53 p0 p1 p2)), .val (.ref b18), .val (.int (1 : Int32))] [(.int (own_t0_49 p0 p1 p2)), (.int (own_t0_36 p0 p1 p2)), (.ref b13)])) (fun t k => XS.iload X31.her hx rfl (hb hby at_247) rfl k) ?_
  refine own_st (f' := (mkF m 251 #[.val (.int p0), .val (.int p1), .val (.int p2), .val (.ref b13), .val (.int (own_t0_36 p0 p1 p2)), .val (.int (own_t0_49 p0 p1 p2)), .val (.int (own_t0_53 p0 p1 p2)), .val (.ref b18), .val (.int (1 : Int32))] [(.ref b18), (.int (own_t0_49 p0 p1 p2)), (.int (own_t0_36 p0 p1 p2)), (.ref b13)])) (fun t k => XS.aload X31.her hx rfl (hb hby at_249) rfl rfl k) ?_
  refine own_st (f' := (mkF m 253 #[.val (.int p0), .val (.int p1), .val (.int p2), .val (.ref b13), .val (.int (own_t0_36 p0 p1 p2)), .val (.int (own_t0_49 p0 p1 p2)), .val (.int (own_t0_53 p0 p1 p2)), .val (.ref b18), .val (.int (1 : Int32))] [(.int (own_t0_53 p0 p1 p2)), (.ref b18), (.int (own_t0_49 p0 p1 p2)), (.int (own_t0_36 p0 p1 p2)), (.ref b13)])) (fun t k => XS.iload X31.her hx rfl (hb hby at_251) rfl k) ?_
  refine own_st (f' := (mkF m 254 #[.val (.int p0), .val (.int p1), .val (.int p2), .val (.ref b13), .val (.int (own_t0_36 p0 p1 p2)), .val (.int (own_t0_49 p0 p1 p2)), .val (.int (own_t0_53 p0 p1 p2)), .val (.ref b18), .val (.int (1 : Int32))] [(.int (2 : Int32)), (.int (own_t0_53 p0 p1 p2)), (.ref b18), (.int (own_t0_49 p0 p1 p2)), (.int (own_t0_36 p0 p1 p2)), (.ref b13)])) (fun t k => XS.iconst X31.her hx rfl (hb hby at_253) k) ?_
  refine own_callSP (y := (⟨"com/example/luoshu/luoshu/HexEncodePinLaw", "pair", "([BII[BBI)Z"⟩ : MethodName)) (W := 0) [(.ref b13), (.int (own_t0_36 p0 p1 p2)), (.int (own_t0_49 p0 p1 p2)), (.ref b18), (.int (own_t0_53 p0 p1 p2)), (.int (2 : Int32))] X31 hx hZ hown (own_w5 hw) (own_w6 hw) (own_w7 hw) (own_w8 hw) (by decide) (own_c2 l Z a0 hw h29 n0 Zn29 b13 (own_t0_36 p0 p1 p2) (own_t0_49 p0 p1 p2) b18 (own_t0_53 p0 p1 p2) (2 : Int32) (own_L p0 p1 p2) (own_enc (own_L p0 p1 p2) (own_t0_36 p0 p1 p2) (((own_t0_49 p0 p1 p2).toInt - (0 : Int32).toInt).toNat) (0 : Int32) (own_MM p0 p1 p2)) Bx29 By29 (by decide) (by rw [own_enc_len]; show 4 < 10; decide) (by decide) (by rw [own_enc_len]; show 5 < 10; decide) (own_ix p0 p1 p2 ⟨2, by decide⟩)) (by decide) (by decide) (by decide) (by decide) (by rw [hml]; rfl) own_pd2 rfl rfl (Nat.le_of_eq rfl) (hb hby at_254) ?_
  intro T32 X32
  show own_G p e below _ T32 (mkF m 257 #[.val (.int p0), .val (.int p1), .val (.int p2), .val (.ref b13), .val (.int (own_t0_36 p0 p1 p2)), .val (.int (own_t0_49 p0 p1 p2)), .val (.int (own_t0_53 p0 p1 p2)), .val (.ref b18), .val (.int (1 : Int32))] [(.int (own_F2 (own_t0_36 p0 p1 p2) (own_t0_49 p0 p1 p2) (own_t0_53 p0 p1 p2) (2 : Int32) (own_L p0 p1 p2) (own_enc (own_L p0 p1 p2) (own_t0_36 p0 p1 p2) (((own_t0_49 p0 p1 p2).toInt - (0 : Int32).toInt).toNat) (0 : Int32) (own_MM p0 p1 p2))))])
  refine own_st (f' := (mkF m 260 #[.val (.int p0), .val (.int p1), .val (.int p2), .val (.ref b13), .val (.int (own_t0_36 p0 p1 p2)), .val (.int (own_t0_49 p0 p1 p2)), .val (.int (own_t0_53 p0 p1 p2)), .val (.ref b18), .val (.int (1 : Int32))] [])) (fun t k => XS.ifNo X32.her hx rfl (hb hby at_257) rfl ((if0 _ _).trans (feq (own_one (own_pair p0 p1 p2 ⟨2, by decide⟩) : ¬ ((own_F2 (own_t0_36 p0 p1 p2) (own_t0_49 p0 p1 p2) (own_t0_53 p0 p1 p2) (2 : Int32) (own_L p0 p1 p2) (own_enc (own_L p0 p1 p2) (own_t0_36 p0 p1 p2) (((own_t0_49 p0 p1 p2).toInt - (0 : Int32).toInt).toNat) (0 : Int32) (own_MM p0 p1 p2))) = (0 : Int32)))).1) k) ?_
  refine own_st (f' := (mkF m 261 #[.val (.int p0), .val (.int p1), .val (.int p2), .val (.ref b13), .val (.int (own_t0_36 p0 p1 p2)), .val (.int (own_t0_49 p0 p1 p2)), .val (.int (own_t0_53 p0 p1 p2)), .val (.ref b18), .val (.int (1 : Int32))] [(.int (1 : Int32))])) (fun t k => XS.iconst X32.her hx rfl (hb hby at_260) k) ?_
  refine own_st (f' := (mkF m 265 #[.val (.int p0), .val (.int p1), .val (.int p2), .val (.ref b13), .val (.int (own_t0_36 p0 p1 p2)), .val (.int (own_t0_49 p0 p1 p2)), .val (.int (own_t0_53 p0 p1 p2)), .val (.ref b18), .val (.int (1 : Int32))] [(.int (1 : Int32))])) (fun t k => XS.goto X32.her hx rfl (pc0 := 261) (pc' := 265) rfl (hb hby at_261) (by decide) (by decide) k) ?_
  refine own_st (f' := (mkF m 267 #[.val (.int p0), .val (.int p1), .val (.int p2), .val (.ref b13), .val (.int (own_t0_36 p0 p1 p2)), .val (.int (own_t0_49 p0 p1 p2)), .val (.int (own_t0_53 p0 p1 p2)), .val (.ref b18), .val (.int (1 : Int32))] [])) (fun t k => XS.istore X32.her hx rfl (hb hby at_265) rfl (l' := #[.val (.int p0), .val (.int p1), .val (.int p2), .val (.ref b13), .val (.int (own_t0_36 p0 p1 p2)), .val (.int (own_t0_49 p0 p1 p2)), .val (.int (own_t0_53 p0 p1 p2)), .val (.ref b18), .val (.int (1 : Int32))]) rfl k) ?_
  refine own_st (f' := (mkF m 269 #[.val (.int p0), .val (.int p1), .val (.int p2), .val (.ref b13), .val (.int (own_t0_36 p0 p1 p2)), .val (.int (own_t0_49 p0 p1 p2)), .val (.int (own_t0_53 p0 p1 p2)), .val (.ref b18), .val (.int (1 : Int32))] [(.int (1 : Int32))])) (fun t k => XS.iload X32.her hx rfl (hb hby at_267) rfl k) ?_
  refine own_st (f' := (mkF m 272 #[.val (.int p0), .val (.int p1), .val (.int p2), .val (.ref b13), .val (.int (own_t0_36 p0 p1 p2)), .val (.int (own_t0_49 p0 p1 p2)), .val (.int (own_t0_53 p0 p1 p2)), .val (.ref b18), .val (.int (1 : Int32))] [])) (fun t k => XS.ifNo X32.her hx rfl (hb hby at_269) rfl ((if0 _ _).trans (feq (by decide : ¬ ((1 : Int32) = (0 : Int32)))).1) k) ?_
  refine own_st (f' := (mkF m 273 #[.val (.int p0), .val (.int p1), .val (.int p2), .val (.ref b13), .val (.int (own_t0_36 p0 p1 p2)), .val (.int (own_t0_49 p0 p1 p2)), .val (.int (own_t0_53 p0 p1 p2)), .val (.ref b18), .val (.int (1 : Int32))] [(.ref b13)])) (fun t k => XS.aloadN X32.her hx rfl (hb hby at_272) rfl rfl k) ?_
  refine own_st (f' := (mkF m 275 #[.val (.int p0), .val (.int p1), .val (.int p2), .val (.ref b13), .val (.int (own_t0_36 p0 p1 p2)), .val (.int (own_t0_49 p0 p1 p2)), .val (.int (own_t0_53 p0 p1 p2)), .val (.ref b18), .val (.int (1 : Int32))] [(.int (own_t0_36 p0 p1 p2)), (.ref b13)])) (fun t k => XS.iload X32.her hx rfl (hb hby at_273) rfl k) ?_
  refine own_st (f' := (mkF m 277 #[.val (.int p0), .val (.int p1), .val (.int p2), .val (.ref b13), .val (.int (own_t0_36 p0 p1 p2)), .val (.int (own_t0_49 p0 p1 p2)), .val (.int (own_t0_53 p0 p1 p2)), .val (.ref b18), .val (.int (1 : Int32))] [(.int (own_t0_49 p0 p1 p2)), (.int (own_t0_36 p0 p1 p2)), (.ref b13)])) (fun t k => XS.iload X32.her hx rfl (hb hby at_275) rfl k) ?_
  refine own_st (f' := (mkF m 279 #[.val (.int p0), .val (.int p1), .val (.int p2), .val (.ref b13), .val (.int (own_t0_36 p0 p1 p2)), .val (.int (own_t0_49 p0 p1 p2)), .val (.int (own_t0_53 p0 p1 p2)), .val (.ref b18), .val (.int (1 : Int32))] [(.ref b18), (.int (own_t0_49 p0 p1 p2)), (.int (own_t0_36 p0 p1 p2)), (.ref b13)])) (fun t k => XS.aload X32.her hx rfl (hb hby at_277) rfl rfl k) ?_
  refine own_st (f' := (mkF m 281 #[.val (.int p0), .val (.int p1), .val (.int p2), .val (.ref b13), .val (.int (own_t0_36 p0 p1 p2)), .val (.int (own_t0_49 p0 p1 p2)), .val (.int (own_t0_53 p0 p1 p2)), .val (.ref b18), .val (.int (1 : Int32))] [(.int (own_t0_53 p0 p1 p2)), (.ref b18), (.int (own_t0_49 p0 p1 p2)), (.int (own_t0_36 p0 p1 p2)), (.ref b13)])) (fun t k => XS.iload X32.her hx rfl (hb hby at_279) rfl k) ?_
  refine own_st (f' := (mkF m 282 #[.val (.int p0), .val (.int p1), .val (.int p2), .val (.ref b13), .val (.int (own_t0_36 p0 p1 p2)), .val (.int (own_t0_49 p0 p1 p2)), .val (.int (own_t0_53 p0 p1 p2)), .val (.ref b18), .val (.int (1 : Int32))] [(.int (3 : Int32)), (.int (own_t0_53 p0 p1 p2)), (.ref b18), (.int (own_t0_49 p0 p1 p2)), (.int (own_t0_36 p0 p1 p2)), (.ref b13)])) (fun t k => XS.iconst X32.her hx rfl (hb hby at_281) k) ?_
  refine own_callSP (y := (⟨"com/example/luoshu/luoshu/HexEncodePinLaw", "pair", "([BII[BBI)Z"⟩ : MethodName)) (W := 0) [(.ref b13), (.int (own_t0_36 p0 p1 p2)), (.int (own_t0_49 p0 p1 p2)), (.ref b18), (.int (own_t0_53 p0 p1 p2)), (.int (3 : Int32))] X32 hx hZ hown (own_w5 hw) (own_w6 hw) (own_w7 hw) (own_w8 hw) (by decide) (own_c2 l Z a0 hw h29 n0 Zn29 b13 (own_t0_36 p0 p1 p2) (own_t0_49 p0 p1 p2) b18 (own_t0_53 p0 p1 p2) (3 : Int32) (own_L p0 p1 p2) (own_enc (own_L p0 p1 p2) (own_t0_36 p0 p1 p2) (((own_t0_49 p0 p1 p2).toInt - (0 : Int32).toInt).toNat) (0 : Int32) (own_MM p0 p1 p2)) Bx29 By29 (by decide) (by rw [own_enc_len]; show 6 < 10; decide) (by decide) (by rw [own_enc_len]; show 7 < 10; decide) (own_ix p0 p1 p2 ⟨3, by decide⟩)) (by decide) (by decide) (by decide) (by decide) (by rw [hml]; rfl) own_pd2 rfl rfl (Nat.le_of_eq rfl) (hb hby at_282) ?_
  intro T33 X33
  show own_G p e below _ T33 (mkF m 285 #[.val (.int p0), .val (.int p1), .val (.int p2), .val (.ref b13), .val (.int (own_t0_36 p0 p1 p2)), .val (.int (own_t0_49 p0 p1 p2)), .val (.int (own_t0_53 p0 p1 p2)), .val (.ref b18), .val (.int (1 : Int32))] [(.int (own_F2 (own_t0_36 p0 p1 p2) (own_t0_49 p0 p1 p2) (own_t0_53 p0 p1 p2) (3 : Int32) (own_L p0 p1 p2) (own_enc (own_L p0 p1 p2) (own_t0_36 p0 p1 p2) (((own_t0_49 p0 p1 p2).toInt - (0 : Int32).toInt).toNat) (0 : Int32) (own_MM p0 p1 p2))))])
  refine own_st (f' := (mkF m 288 #[.val (.int p0), .val (.int p1), .val (.int p2), .val (.ref b13), .val (.int (own_t0_36 p0 p1 p2)), .val (.int (own_t0_49 p0 p1 p2)), .val (.int (own_t0_53 p0 p1 p2)), .val (.ref b18), .val (.int (1 : Int32))] [])) (fun t k => XS.ifNo X33.her hx rfl (hb hby at_285) rfl ((if0 _ _).trans (feq (own_one (own_pair p0 p1 p2 ⟨3, by decide⟩) : ¬ ((own_F2 (own_t0_36 p0 p1 p2) (own_t0_49 p0 p1 p2) (own_t0_53 p0 p1 p2) (3 : Int32) (own_L p0 p1 p2) (own_enc (own_L p0 p1 p2) (own_t0_36 p0 p1 p2) (((own_t0_49 p0 p1 p2).toInt - (0 : Int32).toInt).toNat) (0 : Int32) (own_MM p0 p1 p2))) = (0 : Int32)))).1) k) ?_
  refine own_st (f' := (mkF m 289 #[.val (.int p0), .val (.int p1), .val (.int p2), .val (.ref b13), .val (.int (own_t0_36 p0 p1 p2)), .val (.int (own_t0_49 p0 p1 p2)), .val (.int (own_t0_53 p0 p1 p2)), .val (.ref b18), .val (.int (1 : Int32))] [(.int (1 : Int32))])) (fun t k => XS.iconst X33.her hx rfl (hb hby at_288) k) ?_
  refine own_st (f' := (mkF m 293 #[.val (.int p0), .val (.int p1), .val (.int p2), .val (.ref b13), .val (.int (own_t0_36 p0 p1 p2)), .val (.int (own_t0_49 p0 p1 p2)), .val (.int (own_t0_53 p0 p1 p2)), .val (.ref b18), .val (.int (1 : Int32))] [(.int (1 : Int32))])) (fun t k => XS.goto X33.her hx rfl (pc0 := 289) (pc' := 293) rfl (hb hby at_289) (by decide) (by decide) k) ?_
  refine own_st (f' := (mkF m 295 #[.val (.int p0), .val (.int p1), .val (.int p2), .val (.ref b13), .val (.int (own_t0_36 p0 p1 p2)), .val (.int (own_t0_49 p0 p1 p2)), .val (.int (own_t0_53 p0 p1 p2)), .val (.ref b18), .val (.int (1 : Int32))] [])) (fun t k => XS.istore X33.her hx rfl (hb hby at_293) rfl (l' := #[.val (.int p0), .val (.int p1), .val (.int p2), .val (.ref b13), .val (.int (own_t0_36 p0 p1 p2)), .val (.int (own_t0_49 p0 p1 p2)), .val (.int (own_t0_53 p0 p1 p2)), .val (.ref b18), .val (.int (1 : Int32))]) rfl k) ?_
  refine own_st (f' := (mkF m 297 #[.val (.int p0), .val (.int p1), .val (.int p2), .val (.ref b13), .val (.int (own_t0_36 p0 p1 p2)), .val (.int (own_t0_49 p0 p1 p2)), .val (.int (own_t0_53 p0 p1 p2)), .val (.ref b18), .val (.int (1 : Int32))] [(.int (1 : Int32))])) (fun t k => XS.iload X33.her hx rfl (hb hby at_295) rfl k) ?_
  refine own_st (f' := (mkF m 300 #[.val (.int p0), .val (.int p1), .val (.int p2), .val (.ref b13), .val (.int (own_t0_36 p0 p1 p2)), .val (.int (own_t0_49 p0 p1 p2)), .val (.int (own_t0_53 p0 p1 p2)), .val (.ref b18), .val (.int (1 : Int32))] [])) (fun t k => XS.ifNo X33.her hx rfl (hb hby at_297) rfl ((if0 _ _).trans (feq (by decide : ¬ ((1 : Int32) = (0 : Int32)))).1) k) ?_
  refine own_st (f' := (mkF m 302 #[.val (.int p0), .val (.int p1), .val (.int p2), .val (.ref b13), .val (.int (own_t0_36 p0 p1 p2)), .val (.int (own_t0_49 p0 p1 p2)), .val (.int (own_t0_53 p0 p1 p2)), .val (.ref b18), .val (.int (1 : Int32))] [(.ref b18)])) (fun t k => XS.aload X33.her hx rfl (hb hby at_300) rfl rfl k) ?_
  refine own_st (f' := (mkF m 304 #[.val (.int p0), .val (.int p1), .val (.int p2), .val (.ref b13), .val (.int (own_t0_36 p0 p1 p2)), .val (.int (own_t0_49 p0 p1 p2)), .val (.int (own_t0_53 p0 p1 p2)), .val (.ref b18), .val (.int (1 : Int32))] [(.int (8 : Int32)), (.ref b18)])) (fun t k => XS.bipush X33.her hx rfl (hb hby at_302) k) ?_
  refine own_bload (v := ((own_enc (own_L p0 p1 p2) (own_t0_36 p0 p1 p2) (((own_t0_49 p0 p1 p2).toInt - (0 : Int32).toInt).toNat) (0 : Int32) (own_MM p0 p1 p2)).getD 8 0)) X33 hx hZ By29 (by decide) (own_gd _ _ (by rw [own_enc_len]; show 8 < 10; decide)) (hb hby at_304) ?_
  refine own_st (f' := (mkF m 307 #[.val (.int p0), .val (.int p1), .val (.int p2), .val (.ref b13), .val (.int (own_t0_36 p0 p1 p2)), .val (.int (own_t0_49 p0 p1 p2)), .val (.int (own_t0_53 p0 p1 p2)), .val (.ref b18), .val (.int (1 : Int32))] [(.int (own_t0_53 p0 p1 p2)), (.int ((own_enc (own_L p0 p1 p2) (own_t0_36 p0 p1 p2) (((own_t0_49 p0 p1 p2).toInt - (0 : Int32).toInt).toNat) (0 : Int32) (own_MM p0 p1 p2)).getD 8 0))])) (fun t k => XS.iload X33.her hx rfl (hb hby at_305) rfl k) ?_
  refine own_st (f' := (mkF m 310 #[.val (.int p0), .val (.int p1), .val (.int p2), .val (.ref b13), .val (.int (own_t0_36 p0 p1 p2)), .val (.int (own_t0_49 p0 p1 p2)), .val (.int (own_t0_53 p0 p1 p2)), .val (.ref b18), .val (.int (1 : Int32))] [])) (fun t k => XS.icmpNo X33.her hx rfl (hb hby at_307) rfl (teq (own_last p0 p1 p2 8 (by decide) : ((own_enc (own_L p0 p1 p2) (own_t0_36 p0 p1 p2) (((own_t0_49 p0 p1 p2).toInt - (0 : Int32).toInt).toNat) (0 : Int32) (own_MM p0 p1 p2)).getD 8 0) = (own_t0_53 p0 p1 p2))).2 k) ?_
  refine own_st (f' := (mkF m 312 #[.val (.int p0), .val (.int p1), .val (.int p2), .val (.ref b13), .val (.int (own_t0_36 p0 p1 p2)), .val (.int (own_t0_49 p0 p1 p2)), .val (.int (own_t0_53 p0 p1 p2)), .val (.ref b18), .val (.int (1 : Int32))] [(.ref b18)])) (fun t k => XS.aload X33.her hx rfl (hb hby at_310) rfl rfl k) ?_
  refine own_st (f' := (mkF m 314 #[.val (.int p0), .val (.int p1), .val (.int p2), .val (.ref b13), .val (.int (own_t0_36 p0 p1 p2)), .val (.int (own_t0_49 p0 p1 p2)), .val (.int (own_t0_53 p0 p1 p2)), .val (.ref b18), .val (.int (1 : Int32))] [(.int (9 : Int32)), (.ref b18)])) (fun t k => XS.bipush X33.her hx rfl (hb hby at_312) k) ?_
  refine own_bload (v := ((own_enc (own_L p0 p1 p2) (own_t0_36 p0 p1 p2) (((own_t0_49 p0 p1 p2).toInt - (0 : Int32).toInt).toNat) (0 : Int32) (own_MM p0 p1 p2)).getD 9 0)) X33 hx hZ By29 (by decide) (own_gd _ _ (by rw [own_enc_len]; show 9 < 10; decide)) (hb hby at_314) ?_
  refine own_st (f' := (mkF m 317 #[.val (.int p0), .val (.int p1), .val (.int p2), .val (.ref b13), .val (.int (own_t0_36 p0 p1 p2)), .val (.int (own_t0_49 p0 p1 p2)), .val (.int (own_t0_53 p0 p1 p2)), .val (.ref b18), .val (.int (1 : Int32))] [(.int (own_t0_53 p0 p1 p2)), (.int ((own_enc (own_L p0 p1 p2) (own_t0_36 p0 p1 p2) (((own_t0_49 p0 p1 p2).toInt - (0 : Int32).toInt).toNat) (0 : Int32) (own_MM p0 p1 p2)).getD 9 0))])) (fun t k => XS.iload X33.her hx rfl (hb hby at_315) rfl k) ?_
  refine own_st (f' := (mkF m 320 #[.val (.int p0), .val (.int p1), .val (.int p2), .val (.ref b13), .val (.int (own_t0_36 p0 p1 p2)), .val (.int (own_t0_49 p0 p1 p2)), .val (.int (own_t0_53 p0 p1 p2)), .val (.ref b18), .val (.int (1 : Int32))] [])) (fun t k => XS.icmpNo X33.her hx rfl (hb hby at_317) rfl (teq (own_last p0 p1 p2 9 (by decide) : ((own_enc (own_L p0 p1 p2) (own_t0_36 p0 p1 p2) (((own_t0_49 p0 p1 p2).toInt - (0 : Int32).toInt).toNat) (0 : Int32) (own_MM p0 p1 p2)).getD 9 0) = (own_t0_53 p0 p1 p2))).2 k) ?_
  refine own_st (f' := (mkF m 321 #[.val (.int p0), .val (.int p1), .val (.int p2), .val (.ref b13), .val (.int (own_t0_36 p0 p1 p2)), .val (.int (own_t0_49 p0 p1 p2)), .val (.int (own_t0_53 p0 p1 p2)), .val (.ref b18), .val (.int (1 : Int32))] [(.int (1 : Int32))])) (fun t k => XS.iconst X33.her hx rfl (hb hby at_320) k) ?_
  refine own_st (f' := (mkF m 325 #[.val (.int p0), .val (.int p1), .val (.int p2), .val (.ref b13), .val (.int (own_t0_36 p0 p1 p2)), .val (.int (own_t0_49 p0 p1 p2)), .val (.int (own_t0_53 p0 p1 p2)), .val (.ref b18), .val (.int (1 : Int32))] [(.int (1 : Int32))])) (fun t k => XS.goto X33.her hx rfl (pc0 := 321) (pc' := 325) rfl (hb hby at_321) (by decide) (by decide) k) ?_
  refine own_retN (t := .boolean) X33 hx hret hlk (by simp) (hb hby at_325) (by first | decide | omega) (by first | decide | omega) ?_
  exact congrArg (fun q => some (Value.int q)) (by decide)
theorem own_DLn : ∀ i : Fin 16, (own_DL.getD i.val 0).toInt = if i.val < 10 then (i.val : Int) + 48 else (i.val : Int) + 87 := by decide
theorem own_small16 (i : Nat) (hi : i < 16) : ¬ i.toInt32 < 0 ∧ i.toInt32.toNatClampNeg = i := by
  have e : i.toInt32.toInt = (i : Int) := Int32.toInt_ofNat_of_lt (by omega)
  have f : i.toInt32.toNatClampNeg = i.toInt32.toInt.toNat := rfl
  rw [Int32.lt_iff_toInt_lt, show (0 : Int32).toInt = 0 from rfl, f, e]
  omega
theorem own_len16 {t : Term} {args : Array Value} {s : State} {vd : Addr} {cl : Cell} (ev : ∀ idx, t.eval args s none idx s = some (.ref vd)) (At : s.arrayAt? vd = some cl) (h : (Jvm.Cond.eq (Jvm.Term.length t) (Jvm.Term.int 16)).value args s none s [] = some true) : cl.slots.size = 16 := by
  by_cases hb : cl.slots.size < 2 ^ 31
  · have e := len_f (ev []) At hb
    simp only [Cond.value, e] at h
    simp [Term.eval] at h
    have q := congrArg Int32.toInt h
    have f : cl.slots.size.toInt32.toInt = (cl.slots.size : Int) := Int32.toInt_ofNat_of_lt (by omega)
    rw [f, show (16 : Int32).toInt = 16 from rfl] at q
    omega
  · simp [Cond.value, Term.eval, ev, At, hb] at h
theorem own_elt {t : Term} {args : Array Value} {s : State} {vd : Addr} {cl : Cell} {k : Int64} {i : Nat} (ev : ∀ idx, t.eval args s none idx s = some (.ref vd)) (At : s.arrayAt? vd = some cl) (hi : i < 16)
    (h : (Jvm.Cond.eq (Jvm.Term.op1 Jvm.Unary.i2l (Jvm.Term.elem t (Jvm.Term.index 0))) (Jvm.Term.op2 Jvm.Binary.ladd (Jvm.Term.op1 Jvm.Unary.i2l (Jvm.Term.index 0)) (Jvm.Term.long k))).value args s none s [i] = some true) : ∃ x : Int32, cl.slots[i]? = some (.int x) ∧ x.toInt64 = i.toInt32.toInt64 + k := by
  obtain ⟨q1, q2⟩ := own_small16 i hi
  simp [Cond.value, Term.eval, ev, At, Unary.apply, Binary.apply, q1, q2] at h
  cases hs : cl.slots[i]? with
  | none => simp [hs] at h
  | some v => cases v <;> simp [hs] at h; exact ⟨_, rfl, h⟩
theorem own_or {args : Array Value} {s : State} {idx : List Nat} {a b : Jvm.Cond} (h : (Jvm.Cond.or a b).value args s none s idx = some true) (ha : a.value args s none s idx = some false) : b.value args s none s idx = some true := by
  simpa [Cond.value, ha] using h
theorem own_dig {args : Array Value} {s : State} (hw : ∀ d ∈ tables_1, d.before args s = true) (hn : narrow_1.value args s none s [] = some true) : ∃ vd : Addr, own_B s s.heap vd own_DL ∧ Sta s s.heap "com/example/luoshu/luoshu/Hex" "DIGITS" "[B" (.ref vd) := by
  obtain ⟨n1, n2⟩ := and_e hn
  obtain ⟨n2, n3⟩ := and_e n2
  obtain ⟨n3, n4⟩ := and_e n3
  obtain ⟨x, y, e1, e2, -⟩ := cmp_v (Or.inl n2)
  obtain ⟨vd, ev0⟩ := len_v e1
  have ev : ∀ idx, (Jvm.Term.static "com/example/luoshu/luoshu/Hex" "DIGITS" "[B").eval args s none idx s = some (.ref vd) := fun _ => ev0
  obtain ⟨cl, A⟩ := Arr.start ev0 n1
  have At := A.fin (Vm.Alike.refl _)
  have h16 := own_len16 ev At n2
  refine ⟨vd, ⟨cl, A, ?_⟩, Sta.start ev0 (Or.inr ⟨own_w3 hw, own_w10 hw⟩)⟩
  have a1 := Jvm.Cond.all_elim ev0 At n3
  have a2 := Jvm.Cond.all_elim ev0 At n4
  have key : ∀ i : Nat, i < 16 → cl.slots[i]? = some (.int (own_DL.getD i 0)) := by
    intro i hi
    have d := own_DLn ⟨i, hi⟩
    have e : i.toInt32.toInt64.toInt = (i : Int) := by rw [Int32.toInt_toInt64]; exact Int32.toInt_ofNat_of_lt (by omega)
    by_cases h10 : i < 10
    · obtain ⟨x, f1, f2⟩ := own_elt ev At hi (own_or (a1 i (by omega)) (by
        rcases i with _ | _ | _ | _ | _ | _ | _ | _ | _ | _ | i <;> first | rfl | omega))
      rw [f1]
      have g := congrArg Int64.toInt f2
      rw [Int32.toInt_toInt64, Jvm.Kit.i64_add (by rw [e, show (48 : Int64).toInt = 48 from rfl]; omega) (by rw [e, show (48 : Int64).toInt = 48 from rfl]; omega), e, show (48 : Int64).toInt = 48 from rfl] at g
      rw [if_pos h10] at d
      exact congrArg (fun q => some (Value.int q)) (Int32.toInt_inj.mp (g.trans d.symm))
    · obtain ⟨x, f1, f2⟩ := own_elt ev At hi (own_or (a2 i (by omega)) (by
        rcases i with _ | _ | _ | _ | _ | _ | _ | _ | _ | _ | _ | _ | _ | _ | _ | _ | i <;> first | rfl | omega))
      rw [f1]
      have g := congrArg Int64.toInt f2
      rw [Int32.toInt_toInt64, Jvm.Kit.i64_add (by rw [e, show (87 : Int64).toInt = 87 from rfl]; omega) (by rw [e, show (87 : Int64).toInt = 87 from rfl]; omega), e, show (87 : Int64).toInt = 87 from rfl] at g
      rw [if_neg h10] at d
      exact congrArg (fun q => some (Value.int q)) (Int32.toInt_inj.mp (g.trans d.symm))
  apply Array.ext_getElem?
  intro i
  by_cases hi : i < 16
  · rw [key i hi]
    rcases i with _ | _ | _ | _ | _ | _ | _ | _ | _ | _ | _ | _ | _ | _ | _ | _ | i <;> first | rfl | omega
  · rw [Array.getElem?_eq_none (by omega), Array.getElem?_eq_none (by show 16 ≤ i; omega)]
set_option maxRecDepth 65536 in
set_option maxHeartbeats 40000000 in
theorem own_comes {Post : Tables → Env → Array Value → State → Outcome → State → Prop} (hpost : ∀ tb e args s v u, (limb_1_1.after args s (.returned v) u = true ∧ limb_1_2.after args s (.returned v) u = true) → FrameEnd s (.returned v) u (Jvm.fieldLocs frame_1_writes args s ++ Jvm.arrayLocs frame_1_arrays args s ++ Jvm.staticLocs frame_1_statics s) 16 128 → Post tb e args s (.returned v) u) :
    ArmFor flags0 classFile x code maxLocals ret World_1 tables_1 room_1 Calls_1 rest_1 Pre_1 Post := by
  intro l hfl _ _ p e ha hc hk s m args below hf hA hF happ hP
  obtain ⟨hcalls, hrest, hpre⟩ := hP
  obtain ⟨-, -, -, hnamed, -, -, -, hat⟩ := (Spec.applies_iff hf).mp happ
  obtain ⟨hg, hn⟩ := and_e (Cond.before_iff.mp (show (Jvm.Cond.and given_1 narrow_1).before args s = true from hpre))
  obtain ⟨g34, g35⟩ := and_e hg
  obtain ⟨g36, g37⟩ := and_e g35
  obtain ⟨g38, g39⟩ := and_e g37
  obtain ⟨w0, w1, w2, rfl⟩ : ∃ w0 w1 w2 : Value, args = #[w0, w1, w2] := by
    have hs : args.size = 3 := by simpa [Cond.value, given_1] using g34
    obtain ⟨L⟩ := args
    match L, hs with
    | [w0, w1, w2], _ => exact ⟨w0, w1, w2, rfl⟩
  have hw := fun d (hd : d ∈ tables_1) => atoms_spec (ws := Jvm.Cond.code x code maxLocals ret :: tables_1) hat d (List.mem_cons_of_mem _ hd)
  obtain ⟨i0, ei0⟩ := is_v g36
  obtain rfl : w0 = (.int i0) := Option.some.inj ei0
  obtain ⟨i1, ei1⟩ := is_v g38
  obtain rfl : w1 = (.int i1) := Option.some.inj ei1
  obtain ⟨i2, ei2⟩ := is_v g39
  obtain rfl : w2 = (.int i2) := Option.some.inj ei2
  obtain ⟨vd, BD, S0⟩ := own_dig hw hn
  obtain ⟨n, o, h1, h2, h3, v, L, rfl, ⟨N, -, hv⟩, hq⟩ := own_c0 l s _ hw s.heap s.heap.size (Nat.le_refl _) i0 i1 i2 vd BD S0 p e ha hc hk s m _ below hf ((Spec.applies_iff_loose hf).mp happ).1 ⟨rfl, State.Warmed39.refl s, rfl⟩ trivial
  obtain rfl : v = some (.int 1) := hv
  refine ⟨n, _, h1, h2, h3, hpost _ _ _ _ _ _ ⟨Cond.after_iff.mpr rfl, Cond.after_iff.mpr (eq_i res_at (Term.int_eval (1)) rfl)⟩ ⟨hq.1, hq.2.1, (hq.2.2.sift fun y hy => Or.inr (N y hy)).mono (by decide) (by decide)⟩⟩
theorem main_1_1 : Claimed_1_1 := own_comes fun _ _ _ _ _ _ h hF => ⟨h.1, hF⟩
theorem main_1_2 : Claimed_1_2 := own_comes fun _ _ _ _ _ _ h hF => ⟨h.2, hF⟩
end Jvm.Pilot.@@N@@
namespace Jvm.Pilot.@@N@@
open Jvm Jvm.ClassFile Sem Op Lib Jvm.Free Jvm.Stand Jvm.Pilot.@@N@@.Jvm.D
/-! MADE BY PROGRAM (witnessworld.py) out of the Statement's table words and the real class files: 9 classes; the members and pool entries that the words name. The judged class is class 1, her method 1. -/
namespace start1
open Jvm.ClassFile
def u (s : String) : CpInfo := .utf8 (stringToUtf16 s)
/-- a pool by its gaps: so many unusable entries, then the entry; so many at the end -/
def gap : Nat → List CpInfo → List CpInfo
  | 0, r => r
  | n + 1, r => .unusable :: gap n r
def poolList (es : List (Nat × CpInfo)) (last : Nat) : List CpInfo := es.foldr (fun e r => gap e.1 (e.2 :: r)) (gap last [])
def pool (es : List (Nat × CpInfo)) (last : Nat) : Array CpInfo := ⟨poolList es last⟩
def fileOf (pool : Array CpInfo) (this : Nat) (attrs : Array Attribute := #[]) (ms : Array MethodInfo := #[]) (fl : Nat := 33) (sup : Nat := 0) (ifs : Array Nat := #[]) (fds : Array FieldInfo := #[]) : ClassFile where
  minorVersion := 0
  majorVersion := 65
  constantPool := pool
  accessFlags := fl
  thisClass := this
  superClass := sup
  interfaces := ifs
  fields := fds
  methods := ms
  attributes := attrs
def plain (name : String) (sup : Option ClassId) : Class where
  name := name
  kind := .ordinary
  loader := none
  accessFlags := 33
  super := sup
  interfaces := #[]
  cf := none
  fields := #[]
  methods := #[]
  instanceTypes := #[]
  staticTypes := #[]
  resolved := #[]
  callSites := []
  init := .initialized
  statics := none
  mirror := none

def pool0 : Array CpInfo := pool [(5, u "<init>"), (0, u "()V"), (1, .class_ 10), (1, u "java/lang/Object")] 113

def k0m0 : Method := { name := "<init>", desc := "()V", sig := { parameters := [], returnType := none }, accessFlags := 1, code := none }
/-- java/lang/Object -/
def k0 : Class := { plain "java/lang/Object" none with
  accessFlags := 33
  interfaces := #[]
  cf := some (fileOf pool0 8 #[] #[{ accessFlags := 1, nameIndex := 5, descriptorIndex := 6, attributes := #[] }] 33 0 #[] #[])
  fields := #[]
  methods := #[k0m0]
  instanceTypes := #[]
  staticTypes := #[]
  resolved := Array.replicate 124 none
  statics := none }

def pool1 : Array CpInfo := pool [(2, .class_ 4), (1, u "java/lang/Object"), (0, u "<init>"), (0, u "()V"), (0, .methodref 8 9), (0, .class_ 10), (0, .nameAndType 11 12), (0, u "com/example/luoshu/luoshu/Hex"), (0, u "encode"), (0, u "([BII[B)V"), (0, .methodref 14 15), (0, .class_ 16), (0, .nameAndType 17 18), (0, u "com/example/luoshu/luoshu/HexEncodePinLaw"), (0, u "pair"), (0, u "([BII[BBI)Z"), (0, .methodref 14 20), (0, .nameAndType 21 22), (0, u "digit"), (0, u "(I)B"), (2, u "law"), (0, u "(III)Z")] 5

def k1m0 : Method := { name := "<init>", desc := "()V", sig := { parameters := [], returnType := none }, accessFlags := 1, code := none }
def k1c1 : Code := { maxStack := 6, maxLocals := 9, code := code, exceptionTable := #[], attributes := #[] }
def k1m1 : Method := { name := "law", desc := "(III)Z", sig := { parameters := [.int, .int, .int], returnType := some .boolean }, accessFlags := 9, code := some k1c1 }
def k1c2 : Code := { maxStack := 3, maxLocals := 7, code := method_3_code, exceptionTable := #[], attributes := #[] }
def k1m2 : Method := { name := "pair", desc := "([BII[BBI)Z", sig := { parameters := [(.array .byte), .int, .int, (.array .byte), .byte, .int], returnType := some .boolean }, accessFlags := 10, code := some k1c2 }
def k1c3 : Code := { maxStack := 3, maxLocals := 1, code := method_4_code, exceptionTable := #[], attributes := #[] }
def k1m3 : Method := { name := "digit", desc := "(I)B", sig := { parameters := [.int], returnType := some .byte }, accessFlags := 10, code := some k1c3 }
/-- com/example/luoshu/luoshu/HexEncodePinLaw -/
def k1 : Class := { plain "com/example/luoshu/luoshu/HexEncodePinLaw" (some 0) with
  accessFlags := 49
  interfaces := #[]
  cf := some (fileOf pool1 14 #[] #[{ accessFlags := 1, nameIndex := 5, descriptorIndex := 6, attributes := #[] }, { accessFlags := 9, nameIndex := 25, descriptorIndex := 26, attributes := #[] }, { accessFlags := 10, nameIndex := 17, descriptorIndex := 18, attributes := #[] }, { accessFlags := 10, nameIndex := 21, descriptorIndex := 22, attributes := #[] }] 49 2 #[] #[])
  fields := #[]
  methods := #[k1m0, k1m1, k1m2, k1m3]
  instanceTypes := #[]
  staticTypes := #[]
  resolved := Array.replicate 32 none
  statics := none }

def pool2 : Array CpInfo := pool [(2, .class_ 4), (1, u "java/lang/Object"), (0, u "<init>"), (0, u "()V"), (1, .class_ 10), (1, u "com/example/luoshu/luoshu/Hex"), (0, u "encode"), (0, u "([BII[B)V"), (11, .fieldref 8 25), (0, .nameAndType 26 27), (0, u "DIGITS"), (0, u "[B")] 37

def k2m0 : Method := { name := "<init>", desc := "()V", sig := { parameters := [], returnType := none }, accessFlags := 2, code := none }
def k2c1 : Code := { maxStack := 6, maxLocals := 5, code := prog_3_method_3_code, exceptionTable := #[], attributes := #[] }
def k2m1 : Method := { name := "encode", desc := "([BII[B)V", sig := { parameters := [(.array .byte), .int, .int, (.array .byte)], returnType := none }, accessFlags := 8, code := some k2c1 }
/-- com/example/luoshu/luoshu/Hex -/
def k2 : Class := { plain "com/example/luoshu/luoshu/Hex" (some 0) with
  accessFlags := 48
  interfaces := #[]
  cf := some (fileOf pool2 8 #[] #[{ accessFlags := 2, nameIndex := 5, descriptorIndex := 6, attributes := #[] }, { accessFlags := 8, nameIndex := 11, descriptorIndex := 12, attributes := #[] }] 48 2 #[] #[{ accessFlags := 26, nameIndex := 26, descriptorIndex := 27, attributes := #[] }])
  fields := #[{ name := "DIGITS", type := (.array .byte), accessFlags := 26, slot := 0, constantValue := 0 }]
  methods := #[k2m0, k2m1]
  instanceTypes := #[]
  staticTypes := #[(.array .byte)]
  resolved := Array.replicate 65 none
  statics := some 0 }

def pool3 : Array CpInfo := pool [(1, u "java/lang/Cloneable"), (0, .class_ 1), (0, u "java/lang/Object"), (0, .class_ 3)] 3

/-- java/lang/Cloneable -/
def k3 : Class := { plain "java/lang/Cloneable" (some 0) with
  accessFlags := 1537
  interfaces := #[]
  cf := some (fileOf pool3 2 #[] #[] 1537 4 #[] #[])
  fields := #[]
  methods := #[]
  instanceTypes := #[]
  staticTypes := #[]
  resolved := Array.replicate 8 none
  statics := none }

def pool4 : Array CpInfo := pool [(1, u "java/io/Serializable"), (0, .class_ 1), (0, u "java/lang/Object"), (0, .class_ 3)] 3

/-- java/io/Serializable -/
def k4 : Class := { plain "java/io/Serializable" (some 0) with
  accessFlags := 1537
  interfaces := #[]
  cf := some (fileOf pool4 2 #[] #[] 1537 4 #[] #[])
  fields := #[]
  methods := #[]
  instanceTypes := #[]
  staticTypes := #[]
  resolved := Array.replicate 8 none
  statics := none }

/-- the primitive byte -/
def k5 : Class := { plain "byte" none with kind := .primitive 'B', accessFlags := 0x411 }
/-- [B -/
def k6 : Class := { plain "[B" (some 0) with kind := .array 5 .byte, interfaces := #[3, 4], accessFlags := 1041 }

/-- the primitive int -/
def k7 : Class := { plain "int" none with kind := .primitive 'I', accessFlags := 0x411 }
/-- [I -/
def k8 : Class := { plain "[I" (some 0) with kind := .array 7 .int, interfaces := #[3, 4], accessFlags := 1041 }

def heap : Heap := #[{ cls := 2, slots := #[.ref 1], vm := .statics 2 },
  { cls := 6, slots := #[.int 48, .int 49, .int 50, .int 51, .int 52, .int 53, .int 54, .int 55, .int 56, .int 57, .int 97, .int 98, .int 99, .int 100, .int 101, .int 102], vm := .none }]
def classes : Array Class := #[k0, k1, k2, k3, k4, k5, k6, k7, k8]
def interned : List (Array UInt16 × Addr) := []
def slotsUsed : Nat := 17
def theMethod : MethodId := ⟨1, 1⟩
def args0 : Array Value := #[.int 7, .int 3, .int 5]
def aboutOver (below : List Frame) : State where
  vm := { classes := classes, interned := interned.toArray }
  heap := heap
  slotsUsed := slotsUsed
  threads := #[{ frames := .invoking theMethod args0 :: below }]
def below0 : List Frame := [.native { method := ⟨0, 0⟩, args := #[] }]
def about1 : State := aboutOver below0
def p0 : Program := .bare "" "" ""
def e0 : Env := launch0.env 0 0 0
theorem w_frames : about1.frames = Frame.invoking theMethod args0 :: below0 := rfl
set_option maxRecDepth 65536 in
theorem w_args : argsFit about1.vm theMethod args0 = true := by decide +kernel
set_option maxRecDepth 65536 in
theorem w_heap : heapFits about1 = true := by decide +kernel
set_option maxRecDepth 65536 in
theorem w_runnable : about1.curStatus? = some .runnable := by decide +kernel
set_option maxRecDepth 65536 in
theorem w_alone : about1.alone = true := by decide +kernel
set_option maxRecDepth 65536 in
theorem w_named : about1.methodNamed? x = some theMethod := by decide +kernel
set_option maxRecDepth 65536 in
theorem w_hears : about1.hears theMethod below0 = true := by decide +kernel
set_option maxRecDepth 65536 in
theorem w_ripe : about1.ripe theMethod args0 below0 = true := by decide +kernel
theorem w_running : about1.status = .running := rfl
set_option maxRecDepth 65536 in
theorem w_room : about1.hasRoom e0.platform room_1 = true :=
  launch0.hasRoom_least _ room_1 (by decide +kernel) (by decide +kernel) (by decide +kernel) (by decide +kernel) (by decide +kernel) (by decide +kernel)
theorem allAtoms_all (ts : List Jvm.Cond) (a : Array Jvm.Value) (st : Jvm.State) : (allAtoms ts).before a st = ts.all (fun c => c.before a st) := by
  induction ts with
  | nil => rfl
  | cons c t ih =>
    show (Jvm.Cond.and c (allAtoms t)).before a st = _
    rw [Jvm.Cond.before_and, ih, List.all_cons]
def words1 : List Jvm.Cond := Jvm.Cond.code x code maxLocals ret :: tables_1
/-- a 'code' word, met by the world's own term for the bytes: nothing is compared byte by byte -/
theorem code_word {y : MethodName} {bytes : ByteArray} {mx : Nat} {rt : Option FieldType} {a : Array Value} {s : State} {m : MethodId} {meth : Method} {c : Code} (h1 : s.methodNamed? y = some m) (h2 : s.vm.method? m = some meth) (h3 : meth.code = some c) (h4 : c.code = bytes)
    (h5 : (c.maxLocals == mx && c.exceptionTable.isEmpty && decide (c.maxStack ≤ mostOperands) && decide (meth.sig.returnType = rt) && !meth.locks && decide (parseMethodDescriptor y.desc = some meth.sig)) = true) : (Jvm.Cond.code y bytes mx rt).before a s = true := by
  simp only [Bool.and_eq_true, beq_iff_eq, Bool.not_eq_true', decide_eq_true_eq] at h5
  obtain ⟨⟨⟨⟨⟨g1, g2⟩, g3⟩, g4⟩, g5⟩, g6⟩ := h5
  simp [Cond.before, Cond.holds, Cond.value, h1, h2, h3, h4, g1, g2, g3, g4, g5, g6]
def isCode : Jvm.Cond → Bool
  | .code _ _ _ _ => true
  | _ => false
theorem all_split {L : List Jvm.Cond} {P : Jvm.Cond → Bool} (h1 : L.all (fun c => isCode c || P c) = true) (h2 : ∀ c ∈ L.filter isCode, P c = true) : L.all P = true := by
  refine List.all_eq_true.mpr fun c hc => ?_
  have h := List.all_eq_true.mp h1 c hc
  rcases Bool.eq_false_or_eq_true (isCode c) with hi | hi
  · exact h2 c (List.mem_filter.mpr ⟨hc, hi⟩)
  · simpa [hi] using h
set_option maxRecDepth 65536 in
theorem w_c0 : (Jvm.Cond.code x code maxLocals ret).before args0 about1 = true := code_word (m := ⟨1, 1⟩) (meth := k1m1) (c := k1c1) (by decide +kernel) rfl rfl rfl (by decide +kernel)
set_option maxRecDepth 65536 in
theorem w_c1 : (Jvm.Cond.code ({ cls := "com/example/luoshu/luoshu/Hex", name := "encode", desc := "([BII[B)V" } : Jvm.MethodName) prog_3_method_3_code (5 : Nat) (Option.none : Option Jvm.ClassFile.FieldType)).before args0 about1 = true := code_word (m := ⟨2, 1⟩) (meth := k2m1) (c := k2c1) (by decide +kernel) rfl rfl rfl (by decide +kernel)
set_option maxRecDepth 65536 in
theorem w_c2 : (Jvm.Cond.code ({ cls := "com/example/luoshu/luoshu/HexEncodePinLaw", name := "pair", desc := "([BII[BBI)Z" } : Jvm.MethodName) method_3_code (7 : Nat) (Option.some Jvm.ClassFile.FieldType.boolean)).before args0 about1 = true := code_word (m := ⟨1, 2⟩) (meth := k1m2) (c := k1c2) (by decide +kernel) rfl rfl rfl (by decide +kernel)
set_option maxRecDepth 65536 in
theorem w_c3 : (Jvm.Cond.code ({ cls := "com/example/luoshu/luoshu/HexEncodePinLaw", name := "digit", desc := "(I)B" } : Jvm.MethodName) method_4_code (1 : Nat) (Option.some Jvm.ClassFile.FieldType.byte)).before args0 about1 = true := code_word (m := ⟨1, 3⟩) (meth := k1m3) (c := k1c3) (by decide +kernel) rfl rfl rfl (by decide +kernel)
def codes1 : List Jvm.Cond := [Jvm.Cond.code x code maxLocals ret, Jvm.Cond.code ({ cls := "com/example/luoshu/luoshu/Hex", name := "encode", desc := "([BII[B)V" } : Jvm.MethodName) prog_3_method_3_code (5 : Nat) (Option.none : Option Jvm.ClassFile.FieldType), Jvm.Cond.code ({ cls := "com/example/luoshu/luoshu/HexEncodePinLaw", name := "pair", desc := "([BII[BBI)Z" } : Jvm.MethodName) method_3_code (7 : Nat) (Option.some Jvm.ClassFile.FieldType.boolean), Jvm.Cond.code ({ cls := "com/example/luoshu/luoshu/HexEncodePinLaw", name := "digit", desc := "(I)B" } : Jvm.MethodName) method_4_code (1 : Nat) (Option.some Jvm.ClassFile.FieldType.byte)]
set_option maxRecDepth 65536 in
theorem codes_eq : words1.filter isCode = codes1 := rfl
theorem w_codes : ∀ c ∈ words1.filter isCode, c.before args0 about1 = true := by
  rw [codes_eq]
  intro c hc
  simp only [codes1, List.mem_cons, List.not_mem_nil, or_false] at hc
  rcases hc with rfl | rfl | rfl | rfl
  · exact w_c0
  · exact w_c1
  · exact w_c2
  · exact w_c3
set_option maxRecDepth 65536 in
theorem w_t1 : words1.all (fun c => isCode c || c.before args0 about1) = true := by decide +kernel
theorem w_tables : (allAtoms (Jvm.Cond.code x code maxLocals ret :: tables_1)).before args0 about1 = true := by
  rw [allAtoms_all]
  show words1.all (fun c => c.before args0 about1) = true
  refine all_split ?_ w_codes
  rw [w_t1]
set_option maxRecDepth 65536 in
theorem w_case : (Jvm.Cond.and given_1 narrow_1).before args0 about1 = true := by decide +kernel
theorem w_applies : (headSpec (Jvm.Cond.code x code maxLocals ret :: tables_1) room_1).applies x e0.platform about1 = true :=
  (Spec.applies_iff w_frames).mpr ⟨w_running, w_runnable, w_alone, w_named, w_hears, w_ripe, w_room, w_tables⟩
theorem atStart : AtStart classFile x code maxLocals ret World_1 tables_1 room_1 Calls_1 rest_1 Pre_1 launch0 p0 e0 about1 theMethod args0 below0 :=
  ⟨lists_1, trivial, launch0.admits_env _ _ _, launch0.least_env, fairChoices_fair.cas, fairChoices_fair.clock, w_frames, w_args, w_heap, w_applies, trivial, trivial, w_case⟩
end start1
theorem witness_1 : WitnessClaimed_1 := ⟨start1.p0, start1.e0, start1.about1, start1.theMethod, start1.args0, start1.below0, start1.atStart⟩
end Jvm.Pilot.@@N@@
