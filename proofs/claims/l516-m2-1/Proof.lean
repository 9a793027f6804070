import JvmDerived
import JvmDerived.Pilot.@@N@@Statement
import JvmDerived.Pilot.@@N@@Code
set_option linter.unusedVariables false
set_option linter.unusedSimpArgs false
@@BLOCK:NumsL.lean.txt@@
namespace Jvm.Pilot.@@N@@
open Jvm Jvm.ClassFile Sem Op Lib Jvm.Free Jvm.Stand Jvm.LawKit Jvm.RoadKit Bundle Jvm.Pilot.@@N@@.Jvm.D
section Own
variable {p : Program} {l : Launch} {e : Env} {R : Room} {s : State} {m : MethodId} {args : Array Value} {below : List Frame} {meth : Method} {c : Code} {T T' : State} {locs : List Loc} {cells slots : Nat} {Z : State} {h h' h0 : Heap} {n0 : Nat} {ws : List Addr} {a0 : Array Value}
/-- what is still to be shown: from this frame the run ends as G says -/
def own_G (p : Program) (e : Env) (below : List Frame) (G : Outcome → State → Prop) (T : State) (f : JFrame) : Prop :=
  ∃ s₂ o, Steps p.tables e below (T.setTop f) s₂ ∧ s₂.status = .running ∧ Ended s₂ below o ∧ G o s₂
theorem own_st {G : Outcome → State → Prop} {f f' : JFrame} (q : ∀ t, Steps p.tables e below (T'.setTop f') t → Steps p.tables e below (T.setTop f) t) (k : own_G p e below G T' f') : own_G p e below G T f := by
  obtain ⟨a, o, r1, r2⟩ := k
  exact ⟨a, o, q a r1, r2⟩
theorem own_cast {G : Outcome → State → Prop} {f f' : JFrame} (q : f = f') (k : own_G p e below G T f') : own_G p e below G T f := q ▸ k
def own_D (s : State) (Q : Option Value → Heap → List Loc → Prop) (C S : Nat) (o : Outcome) (U : State) : Prop := ∃ v L, o = .returned v ∧ Q v U.heap L ∧ FrameEnd s o U L C S
def own_Q (n0 : Nat) (h0 : Heap) (ws : List Addr) (P : Option Value → Heap → Prop) (v : Option Value) (h : Heap) (L : List Loc) : Prop := Fr n0 L ∧ Keep h0 h ws ∧ P v h
def own_M (l : Launch) (y : MethodName) (code : ByteArray) (maxL : Nat) (ret : Option FieldType) (wd : List Jvm.Cond) (rm : Room) (Z : State) (as : Array Value) (h0 : Heap) (Q : Option Value → Heap → List Loc → Prop) : Prop :=
  MetFree l y (head1 (Jvm.Cond.code y code maxL ret :: wd) rm) (fun a U => a = as ∧ Z.Warmed39 U.vm ∧ U.heap = h0) (fun _ _ _ _ _ => True) (fun _ U o U' => ∃ v L, o = .returned v ∧ Q v U'.heap L ∧ FrameEnd U o U' L rm.cells rm.slots)
/-- where the walk stands: nothing old but ws was written -/
def own_S (p : Program) (l : Launch) (e : Env) (R : Room) (s : State) (m : MethodId) (args : Array Value) (below : List Frame) (meth : Method) (c : Code) (n0 : Nat) (h0 : Heap) (ws : List Addr) (T : State) (h : Heap) (cells slots : Nat) : Prop :=
  (∃ locs, Stand p l e R s m args below meth c T locs cells slots ∧ Fr n0 locs) ∧ T.heap = h ∧ Keep h0 h ws
theorem own_S.her (X : own_S p l e R s m args below meth c n0 h0 ws T h cells slots) : At T m c below := by
  obtain ⟨⟨_, X, _⟩, _⟩ := X; exact X.here
theorem own_body {y : MethodName} {code : ByteArray} {maxL : Nat} {ret : Option FieldType} {wd : List Jvm.Cond} {rm : Room} {as : Array Value} {P : Option Value → Heap → Prop} (hy : plainFor y = true)
    (B : ∀ (p : Program) (e : Env) (s : State) (m : MethodId) (below : List Frame) (meth : Method) (c : Code) (T : State), own_S p l e rm s m as below meth c n0 h0 ws T h0 0 0 → p.tables.exec = Jvm.exec → c.code = code → c.maxLocals = maxL → s.vm.findClass y.cls = some m.cls → meth.name = y.name → meth.sig.returnType = ret → meth.locks = false → Z.Warmed39 s.vm →
      own_G p e below (own_D s (own_Q n0 h0 ws P) rm.cells rm.slots) T (entryFrame m as maxL)) :
    own_M l y code maxL ret wd rm Z as h0 (own_Q n0 h0 ws P) := by
  refine MetFree.of_bodySF hy hisR ?_
  intro p e s m args below meth c s₁ Bd hml0 hP hK
  obtain ⟨rfl, hZ, hh⟩ := hP
  exact B p e s m below meth c s₁ ⟨⟨[], Stand.of_body Bd, Fr.nil n0⟩, by rw [← hh, Bd.state]; rfl, Keep.refl _ _⟩ Bd.exec Bd.bytes hml0 (findClass_of_methodNamed Bd.named) (name_of_methodNamed Bd.named Bd.method).1 Bd.returns Bd.notSynchronized hZ
section Leave
variable {P : Option Value → Heap → Prop} {pc : Nat} {Ls : Array Slot} {rest : List Value} {C S : Nat}
theorem own_retN {t : FieldType} {z : Int32} (X : own_S p l e R s m args below meth c n0 h0 ws T h cells slots) (hx : p.tables.exec = Jvm.exec) (hret : meth.sig.returnType = some t) (hlk : meth.locks = false) (ht : t = .boolean ∨ t = .byte ∨ t = .char ∨ t = .short) (hd : decode c.code pc = .ok (.ireturn, 1)) (hc : cells ≤ C) (hs : slots ≤ S) (hP : P (some (.int (nar t z))) h) :
    own_G p e below (own_D s (own_Q n0 h0 ws P) C S) T (mkF m pc Ls (.int z :: rest)) := by
  obtain ⟨⟨locs, X, N⟩, rfl, K⟩ := X
  obtain ⟨fs, hr, hrun, hended, hW, hsame⟩ := X.leave (v := some (.int (nar t z))) (fun h => by rw [hret] at h; cases h) hlk
  exact ⟨_, _, retN X hx hret ht hd hr, hrun, hended, _, _, rfl, ⟨N, K, hP⟩, ⟨_, rfl⟩, hW, hsame.mono hc hs⟩
theorem own_retI {z : Int32} (X : own_S p l e R s m args below meth c n0 h0 ws T h cells slots) (hx : p.tables.exec = Jvm.exec) (hret : meth.sig.returnType = some .int) (hlk : meth.locks = false) (hd : decode c.code pc = .ok (.ireturn, 1)) (hc : cells ≤ C) (hs : slots ≤ S) (hP : P (some (.int z)) h) :
    own_G p e below (own_D s (own_Q n0 h0 ws P) C S) T (mkF m pc Ls (.int z :: rest)) := by
  obtain ⟨⟨locs, X, N⟩, rfl, K⟩ := X
  obtain ⟨fs, hr, hrun, hended, hW, hsame⟩ := X.leave (v := some (.int z)) (fun h => by rw [hret] at h; cases h) hlk
  exact ⟨_, _, retOut X hx hret rfl (Or.inl ⟨rfl, Or.inl rfl, _, rfl⟩) hd hr, hrun, hended, _, _, rfl, ⟨N, K, hP⟩, ⟨_, rfl⟩, hW, hsame.mono hc hs⟩
theorem own_retL {z : Int64} (X : own_S p l e R s m args below meth c n0 h0 ws T h cells slots) (hx : p.tables.exec = Jvm.exec) (hret : meth.sig.returnType = some .long) (hlk : meth.locks = false) (hd : decode c.code pc = .ok (.lreturn, 1)) (hc : cells ≤ C) (hs : slots ≤ S) (hP : P (some (.long z)) h) :
    own_G p e below (own_D s (own_Q n0 h0 ws P) C S) T (mkF m pc Ls (.long z :: rest)) := by
  obtain ⟨⟨locs, X, N⟩, rfl, K⟩ := X
  obtain ⟨fs, hr, hrun, hended, hW, hsame⟩ := X.leave (v := some (.long z)) (fun h => by rw [hret] at h; cases h) hlk
  exact ⟨_, _, retOut X hx hret rfl (Or.inr (Or.inl ⟨rfl, rfl, _, rfl⟩)) hd hr, hrun, hended, _, _, rfl, ⟨N, K, hP⟩, ⟨_, rfl⟩, hW, hsame.mono hc hs⟩
theorem own_retA {t : FieldType} {z : Addr} (X : own_S p l e R s m args below meth c n0 h0 ws T h cells slots) (hx : p.tables.exec = Jvm.exec) (hret : meth.sig.returnType = some t) (hlk : meth.locks = false) (ht : t.isReference = true) (hn : narrow t (.ref z) = .ref z) (hd : decode c.code pc = .ok (.areturn, 1)) (hc : cells ≤ C) (hs : slots ≤ S) (hP : P (some (.ref z)) h) :
    own_G p e below (own_D s (own_Q n0 h0 ws P) C S) T (mkF m pc Ls (.ref z :: rest)) := by
  obtain ⟨⟨locs, X, N⟩, rfl, K⟩ := X
  obtain ⟨fs, hr, hrun, hended, hW, hsame⟩ := X.leave (v := some (.ref z)) (fun h => by rw [hret] at h; cases h) hlk
  exact ⟨_, _, retOut X hx hret hn (Or.inr (Or.inr (Or.inr (Or.inr ⟨rfl, ht, rfl⟩)))) hd hr, hrun, hended, _, _, rfl, ⟨N, K, hP⟩, ⟨_, rfl⟩, hW, hsame.mono hc hs⟩
theorem own_ret0 (X : own_S p l e R s m args below meth c n0 h0 ws T h cells slots) (hx : p.tables.exec = Jvm.exec) (hret : meth.sig.returnType = none) (hlk : meth.locks = false) (hd : decode c.code pc = .ok (.return_, 1)) (hc : cells ≤ C) (hs : slots ≤ S) (hP : P none h) :
    own_G p e below (own_D s (own_Q n0 h0 ws P) C S) T (mkF m pc Ls []) := by
  obtain ⟨⟨locs, X, N⟩, rfl, K⟩ := X
  obtain ⟨fs, hr, hrun, hended, hW, hsame⟩ := X.leave (v := none) (fun _ => rfl) hlk
  exact ⟨_, _, X.returnOut hx hret hd hr, hrun, hended, _, _, rfl, ⟨N, K, hP⟩, ⟨_, rfl⟩, hW, hsame.mono hc hs⟩
end Leave
section Calls
variable {y : MethodName} {bytes : ByteArray} {maxL : Nat} {ret : Option FieldType} {rm : Room} {W : Nat} {own : String} {index : Nat} {P : Option Value → Heap → Prop} {wsc : List Addr} {G : Outcome → State → Prop} {pc : Nat} {Ls : Array Slot} {rest stk : List Value} {ps : List FieldType} {r : Option FieldType}
theorem own_callS (as : List Value) (X : own_S p l e R s m args below meth c n0 h0 ws T h cells slots) (hx : p.tables.exec = Jvm.exec) (hZ : Z.Warmed39 s.vm) (hown : s.vm.findClass own = some m.cls)
    (w1 : (Jvm.Cond.methodLink own index y).before a0 Z = true) (w2 : (Jvm.Cond.static y).before a0 Z = true) (w3 : (Jvm.Cond.initialized y.cls).before a0 Z = true) (w4 : (Jvm.Cond.code y bytes maxL ret).before a0 Z = true) (hy : y.cls ≠ "java/lang/invoke/MethodHandle" ∧ y.cls ≠ "java/lang/invoke/VarHandle")
    (M : own_M l y bytes maxL ret [] rm Z as.toArray h (own_Q n0 h wsc P)) (q : ∀ x ∈ wsc, x ∈ ws ∨ h0.size ≤ x)
    (hf : rm.frames + 1 ≤ R.frames) (hl : W + (maxL + 11) + rm.locals ≤ R.locals) (hc : cells + rm.cells ≤ R.cells) (hs : slots + rm.slots ≤ R.slots) (hsize : Ls.size = c.maxLocals)
    (hlen : parseMethodDescriptor y.desc = some ⟨ps, r⟩) (hlen' : as.length = ps.length) (hstk : stk = as.reverse ++ rest) (hW : (rest.map fun v => v.category).sum ≤ W) (hd : decode c.code pc = .ok (.invokestatic index, 3))
    (k : ∀ v T' h', own_S p l e R s m args below meth c n0 h0 ws T' h' (cells + rm.cells) (slots + rm.slots) → Keep h h' wsc → P v h' → own_G p e below G T' (mkF m (pc + 3) Ls (v.toList ++ rest))) :
    own_G p e below G T (mkF m pc Ls stk) := by
  obtain ⟨⟨locs, X, N⟩, e0, K⟩ := X
  obtain ⟨v, vm₁, ⟨T', L', k', n'⟩, -, X', ⟨Lc, hQ, l', y', z'⟩, st⟩ := Jvm.LawKit.callS X hx (y := y) hown (mvT hZ w1) (mvT hZ w2) (mvT hZ w3) (mvT hZ w4) hy (backOf (W := W) M hZ w4 w3 hf hl) (g := mkF m pc Ls stk) rfl hsize (argsL := as) (rest := rest) (lenOf hlen hlen') hstk (by show 2 * 0 + _ ≤ _; rw [Nat.mul_zero, Nat.zero_add]; exact hW) hd (fun _ _ => ⟨rfl, e0, hc, hs⟩)
  dsimp only [Pt.U, Pt.locs, Pt.cells, Pt.slots] at X' l' y' z' st hQ
  subst l' y' z'
  obtain ⟨N', K', hP⟩ := hQ
  exact own_st st (k v T' _ ⟨⟨_, X', N.app N'⟩, rfl, K.trans K' q⟩ K' hP)
theorem own_callC (as : List Value) {a : Addr} (X : own_S p l e R s m args below meth c n0 h0 ws T h cells slots) (hx : p.tables.exec = Jvm.exec) (hZ : Z.Warmed39 s.vm) (hown : s.vm.findClass own = some m.cls) (hy1 : y.name = "<init>")
    (w1 : (Jvm.Cond.methodLink own index y).before a0 Z = true) (w2 : (Jvm.Cond.instanceMethod y).before a0 Z = true) (w3 : (Jvm.Cond.initialized y.cls).before a0 Z = true) (w4 : (Jvm.Cond.code y bytes maxL none).before a0 Z = true) (hy : y.cls ≠ "java/lang/invoke/MethodHandle" ∧ y.cls ≠ "java/lang/invoke/VarHandle")
    (M : own_M l y bytes maxL none [] rm Z (Value.ref a :: as).toArray h (own_Q n0 h wsc P)) (q : ∀ x ∈ wsc, x ∈ ws ∨ h0.size ≤ x)
    (hf : rm.frames + 1 ≤ R.frames) (hl : W + (maxL + 11) + rm.locals ≤ R.locals) (hc : cells + rm.cells ≤ R.cells) (hs : slots + rm.slots ≤ R.slots) (hsize : Ls.size = c.maxLocals)
    (hlen : parseMethodDescriptor y.desc = some ⟨ps, r⟩) (hlen' : as.length = ps.length) (hstk : stk = as.reverse ++ .ref a :: rest) (hW : (rest.map fun v => v.category).sum ≤ W) (hd : decode c.code pc = .ok (.invokespecial index, 3))
    (k : ∀ v T' h', own_S p l e R s m args below meth c n0 h0 ws T' h' (cells + rm.cells) (slots + rm.slots) → Keep h h' wsc → P v h' → own_G p e below G T' (mkF m (pc + 3) Ls (v.toList ++ rest))) :
    own_G p e below G T (mkF m pc Ls stk) := by
  obtain ⟨⟨locs, X, N⟩, e0, K⟩ := X
  obtain ⟨v, vm₁, ⟨T', L', k', n'⟩, -, X', ⟨Lc, hQ, l', y', z'⟩, st⟩ := X.specialBack hx (y := y) hy1 hown (mvT hZ w1) (mvT hZ w2) (mvT hZ w4) hy (backOf (W := W) M hZ w4 w3 hf hl) (g := mkF m pc Ls stk) rfl hsize (Steps.refl _) (a := a) (argsL := as) (rest := rest) (lenOf hlen hlen') hstk (by show 2 * 0 + _ ≤ _; rw [Nat.mul_zero, Nat.zero_add]; exact hW) hd (fun _ _ => ⟨rfl, e0, hc, hs⟩)
  dsimp only [Pt.U, Pt.locs, Pt.cells, Pt.slots] at X' l' y' z' st hQ
  subst l' y' z'
  obtain ⟨N', K', hP⟩ := hQ
  exact own_st (fun t => st.trans) (k v T' _ ⟨⟨_, X', N.app N'⟩, rfl, K.trans K' q⟩ K' hP)
theorem own_callV (as : List Value) {a : Addr} (X : own_S p l e R s m args below meth c n0 h0 ws T h cells slots) (hx : p.tables.exec = Jvm.exec) (hZ : Z.Warmed39 s.vm) (hown : s.vm.findClass own = some m.cls)
    (w1 : (Jvm.Cond.methodLink own index y).before a0 Z = true) (w2 : (Jvm.Cond.declares y).before a0 Z = true) (w3 : (Jvm.Cond.selects y.cls y y).before a0 Z = true) (w5 : (Jvm.Cond.instanceMethod y).before a0 Z = true) (w6 : (Jvm.Cond.initialized y.cls).before a0 Z = true) (w4 : (Jvm.Cond.code y bytes maxL ret).before a0 Z = true) (hy : y.cls ≠ "java/lang/invoke/MethodHandle" ∧ y.cls ≠ "java/lang/invoke/VarHandle")
    (E : Exa Z h a y.cls)
    (M : own_M l y bytes maxL ret [] rm Z (Value.ref a :: as).toArray h (own_Q n0 h wsc P)) (q : ∀ x ∈ wsc, x ∈ ws ∨ h0.size ≤ x)
    (hf : rm.frames + 1 ≤ R.frames) (hl : W + (maxL + 11) + rm.locals ≤ R.locals) (hc : cells + rm.cells ≤ R.cells) (hs : slots + rm.slots ≤ R.slots) (hsize : Ls.size = c.maxLocals)
    (hlen : parseMethodDescriptor y.desc = some ⟨ps, r⟩) (hlen' : as.length = ps.length) (hstk : stk = as.reverse ++ .ref a :: rest) (hW : (rest.map fun v => v.category).sum ≤ W) (hd : decode c.code pc = .ok (.invokevirtual index, 3))
    (k : ∀ v T' h', own_S p l e R s m args below meth c n0 h0 ws T' h' (cells + rm.cells) (slots + rm.slots) → Keep h h' wsc → P v h' → own_G p e below G T' (mkF m (pc + 3) Ls (v.toList ++ rest))) :
    own_G p e below G T (mkF m pc Ls stk) := by
  obtain ⟨⟨locs, X, N⟩, e0, K⟩ := X
  obtain ⟨cq, kq, qa, qb, qc⟩ := isOf hZ e0 E
  obtain ⟨v, vm₁, ⟨T', L', k', n'⟩, -, X', ⟨Lc, hQ, l', y', z'⟩, st⟩ := X.virtualBack hx (y := y) (z := y) hown (mvT hZ w1) (mvT hZ w2) (notFace_of_selects (args := #[]) (mvT hZ w3)) (mvT hZ w3) (mvT hZ w5) hy (backOf (W := W) M hZ w4 w6 hf hl) qa qc (g := mkF m pc Ls stk) rfl hsize (Steps.refl _) (argsL := as) (rest := rest) (lenOf hlen hlen') hstk (by show 2 * 0 + _ ≤ _; rw [Nat.mul_zero, Nat.zero_add]; exact hW) hd (fun _ _ => ⟨rfl, e0, hc, hs⟩)
  dsimp only [Pt.U, Pt.locs, Pt.cells, Pt.slots] at X' l' y' z' st hQ
  subst l' y' z'
  obtain ⟨N', K', hP⟩ := hQ
  exact own_st (fun t => st.trans) (k v T' _ ⟨⟨_, X', N.app N'⟩, rfl, K.trans K' q⟩ K' hP)
theorem own_initO {a : Addr} (X : own_S p l e R s m args below meth c n0 h0 ws T h cells slots) (hx : p.tables.exec = Jvm.exec) (hZ : Z.Warmed39 s.vm) (hown : s.vm.findClass own = some m.cls)
    (w1 : (Jvm.Cond.methodLink own index Lib.objectInit).before a0 Z = true) (w2 : (Jvm.Cond.instanceMethod Lib.objectInit).before a0 Z = true) (w3 : (Jvm.Cond.code Lib.objectInit ⟨#[0xb1]⟩ 1 none).before a0 Z = true)
    (hf : 1 ≤ R.frames) (hl : W + 12 ≤ R.locals) (hsize : Ls.size = c.maxLocals) (hW : (rest.map fun v => v.category).sum ≤ W) (hd : decode c.code pc = .ok (.invokespecial index, 3))
    (k : ∀ T', own_S p l e R s m args below meth c n0 h0 ws T' h cells slots → own_G p e below G T' (mkF m (pc + 3) Ls rest)) :
    own_G p e below G T (mkF m pc Ls (.ref a :: rest)) := by
  obtain ⟨⟨locs, X, N⟩, e0, K⟩ := X
  obtain ⟨T1, X1, e1, st⟩ := initO X hx hZ hown w1 w2 w3 e0 (g := mkF m pc Ls (.ref a :: rest)) rfl hsize rfl hd hf (W := W) (by show 2 * 0 + _ ≤ _; rw [Nat.mul_zero, Nat.zero_add]; exact hW) hl
  exact own_st st (k T1 ⟨⟨_, X1, N⟩, e1, K⟩)
/-- a pure callee: it returns this and leaves the heap -/
def own_P (val : Value) (h0 : Heap) (v : Option Value) (h : Heap) : Prop := v = some val ∧ h = h0
theorem own_callSP (as : List Value) {val : Value} (X : own_S p l e R s m args below meth c n0 h0 ws T h cells slots) (hx : p.tables.exec = Jvm.exec) (hZ : Z.Warmed39 s.vm) (hown : s.vm.findClass own = some m.cls)
    (w1 : (Jvm.Cond.methodLink own index y).before a0 Z = true) (w2 : (Jvm.Cond.static y).before a0 Z = true) (w3 : (Jvm.Cond.initialized y.cls).before a0 Z = true) (w4 : (Jvm.Cond.code y bytes maxL ret).before a0 Z = true) (hy : y.cls ≠ "java/lang/invoke/MethodHandle" ∧ y.cls ≠ "java/lang/invoke/VarHandle")
    (M : own_M l y bytes maxL ret [] rm Z as.toArray h (own_Q n0 h [] (own_P val h)))
    (hf : rm.frames + 1 ≤ R.frames) (hl : W + (maxL + 11) + rm.locals ≤ R.locals) (hc : cells + rm.cells ≤ R.cells) (hs : slots + rm.slots ≤ R.slots) (hsize : Ls.size = c.maxLocals)
    (hlen : parseMethodDescriptor y.desc = some ⟨ps, r⟩) (hlen' : as.length = ps.length) (hstk : stk = as.reverse ++ rest) (hW : (rest.map fun v => v.category).sum ≤ W) (hd : decode c.code pc = .ok (.invokestatic index, 3))
    (k : ∀ T', own_S p l e R s m args below meth c n0 h0 ws T' h (cells + rm.cells) (slots + rm.slots) → own_G p e below G T' (mkF m (pc + 3) Ls (val :: rest))) :
    own_G p e below G T (mkF m pc Ls stk) :=
  own_callS as X hx hZ hown w1 w2 w3 w4 hy M (fun _ q => nomatch q) hf hl hc hs hsize hlen hlen' hstk hW hd fun v T' h' X' _ hv => by
    obtain ⟨hv, hh⟩ := hv
    rw [hv]; rw [hh] at X'
    exact k T' X'
/-- a callee that returns nothing and leaves the heap -/
def own_N (h0 : Heap) (v : Option Value) (h : Heap) : Prop := v = none ∧ h = h0
theorem own_callCN (as : List Value) {a : Addr} (X : own_S p l e R s m args below meth c n0 h0 ws T h cells slots) (hx : p.tables.exec = Jvm.exec) (hZ : Z.Warmed39 s.vm) (hown : s.vm.findClass own = some m.cls) (hy1 : y.name = "<init>")
    (w1 : (Jvm.Cond.methodLink own index y).before a0 Z = true) (w2 : (Jvm.Cond.instanceMethod y).before a0 Z = true) (w3 : (Jvm.Cond.initialized y.cls).before a0 Z = true) (w4 : (Jvm.Cond.code y bytes maxL none).before a0 Z = true) (hy : y.cls ≠ "java/lang/invoke/MethodHandle" ∧ y.cls ≠ "java/lang/invoke/VarHandle")
    (M : own_M l y bytes maxL none [] rm Z (Value.ref a :: as).toArray h (own_Q n0 h [] (own_N h)))
    (hf : rm.frames + 1 ≤ R.frames) (hl : W + (maxL + 11) + rm.locals ≤ R.locals) (hc : cells + rm.cells ≤ R.cells) (hs : slots + rm.slots ≤ R.slots) (hsize : Ls.size = c.maxLocals)
    (hlen : parseMethodDescriptor y.desc = some ⟨ps, r⟩) (hlen' : as.length = ps.length) (hstk : stk = as.reverse ++ .ref a :: rest) (hW : (rest.map fun v => v.category).sum ≤ W) (hd : decode c.code pc = .ok (.invokespecial index, 3))
    (k : ∀ T', own_S p l e R s m args below meth c n0 h0 ws T' h (cells + rm.cells) (slots + rm.slots) → own_G p e below G T' (mkF m (pc + 3) Ls rest)) :
    own_G p e below G T (mkF m pc Ls stk) :=
  own_callC as X hx hZ hown hy1 w1 w2 w3 w4 hy M (fun _ q => nomatch q) hf hl hc hs hsize hlen hlen' hstk hW hd fun v T' h' X' _ hv => by
    obtain ⟨hv, hh⟩ := hv
    rw [hv]; rw [hh] at X'
    exact k T' X'
theorem own_callVP (as : List Value) {val : Value} {a : Addr} (X : own_S p l e R s m args below meth c n0 h0 ws T h cells slots) (hx : p.tables.exec = Jvm.exec) (hZ : Z.Warmed39 s.vm) (hown : s.vm.findClass own = some m.cls)
    (w1 : (Jvm.Cond.methodLink own index y).before a0 Z = true) (w2 : (Jvm.Cond.declares y).before a0 Z = true) (w3 : (Jvm.Cond.selects y.cls y y).before a0 Z = true) (w5 : (Jvm.Cond.instanceMethod y).before a0 Z = true) (w6 : (Jvm.Cond.initialized y.cls).before a0 Z = true) (w4 : (Jvm.Cond.code y bytes maxL ret).before a0 Z = true) (hy : y.cls ≠ "java/lang/invoke/MethodHandle" ∧ y.cls ≠ "java/lang/invoke/VarHandle")
    (E : Exa Z h a y.cls)
    (M : own_M l y bytes maxL ret [] rm Z (Value.ref a :: as).toArray h (own_Q n0 h [] (own_P val h)))
    (hf : rm.frames + 1 ≤ R.frames) (hl : W + (maxL + 11) + rm.locals ≤ R.locals) (hc : cells + rm.cells ≤ R.cells) (hs : slots + rm.slots ≤ R.slots) (hsize : Ls.size = c.maxLocals)
    (hlen : parseMethodDescriptor y.desc = some ⟨ps, r⟩) (hlen' : as.length = ps.length) (hstk : stk = as.reverse ++ .ref a :: rest) (hW : (rest.map fun v => v.category).sum ≤ W) (hd : decode c.code pc = .ok (.invokevirtual index, 3))
    (k : ∀ T', own_S p l e R s m args below meth c n0 h0 ws T' h (cells + rm.cells) (slots + rm.slots) → own_G p e below G T' (mkF m (pc + 3) Ls (val :: rest))) :
    own_G p e below G T (mkF m pc Ls stk) :=
  own_callV as X hx hZ hown w1 w2 w3 w5 w6 w4 hy E M (fun _ q => nomatch q) hf hl hc hs hsize hlen hlen' hstk hW hd fun v T' h' X' _ hv => by
    obtain ⟨hv, hh⟩ := hv
    rw [hv]; rw [hh] at X'
    exact k T' X'
theorem own_irem {x z : Int32} (X : own_S p l e R s m args below meth c n0 h0 ws T h cells slots) (hx : p.tables.exec = Jvm.exec) (hd : decode c.code pc = .ok (.irem, 1)) (hz : z ≠ 0)
    (k : own_G p e below G T (mkF m (pc + 1) Ls (.int (x % z) :: rest))) : own_G p e below G T (mkF m pc Ls (.int z :: .int x :: rest)) :=
  own_st (fun t k => XS.irem X.her hx rfl hd rfl hz (by rw [irem_eq_mod]; exact k)) k
theorem own_lrem {x z : Int64} (X : own_S p l e R s m args below meth c n0 h0 ws T h cells slots) (hx : p.tables.exec = Jvm.exec) (hd : decode c.code pc = .ok (.lrem, 1)) (hz : z ≠ 0)
    (k : own_G p e below G T (mkF m (pc + 1) Ls (.long (x % z) :: rest))) : own_G p e below G T (mkF m pc Ls (.long z :: .long x :: rest)) :=
  own_st (fun t k => XS.lrem X.her hx rfl hd rfl hz (by rw [lrem_mod]; exact k)) k
theorem own_b2 (x : Int32) : x.toInt8.toInt32.toInt8.toInt32 = x.toInt8.toInt32 := by simp
end Calls
section Heap
variable {own : String} {index : Nat} {G : Outcome → State → Prop} {pc : Nat} {Ls : Array Slot} {rest : List Value}
theorem own_ldcI {v : Int32} (X : own_S p l e R s m args below meth c n0 h0 ws T h cells slots) (hx : p.tables.exec = Jvm.exec) (hZ : Z.Warmed39 s.vm) (hown : s.vm.findClass own = some m.cls) (w : (Jvm.Cond.constant own index v).before a0 Z = true) (hd : decode c.code pc = .ok (.ldc index, 2))
    (k : own_G p e below G T (mkF m (pc + 2) Ls (.int v :: rest))) : own_G p e below G T (mkF m pc Ls rest) := by
  obtain ⟨⟨locs, X, N⟩, e0, K⟩ := X
  exact own_st (X.ldcInt hx hown (mvT hZ w) (g := mkF m pc Ls rest) rfl hd) k
theorem own_ldcL {v : Int64} (X : own_S p l e R s m args below meth c n0 h0 ws T h cells slots) (hx : p.tables.exec = Jvm.exec) (hZ : Z.Warmed39 s.vm) (hown : s.vm.findClass own = some m.cls) (w : (Jvm.Cond.constantLong own index v).before a0 Z = true) (hd : decode c.code pc = .ok (.ldc2_w index, 3))
    (k : own_G p e below G T (mkF m (pc + 3) Ls (.long v :: rest))) : own_G p e below G T (mkF m pc Ls rest) := by
  obtain ⟨⟨locs, X, N⟩, e0, K⟩ := X
  exact own_st (X.ldc2Long hx hown (mvT hZ w) (g := mkF m pc Ls rest) rfl hd) k
theorem own_getF {a : Addr} {C n d : String} {v : Value} (X : own_S p l e R s m args below meth c n0 h0 ws T h cells slots) (hx : p.tables.exec = Jvm.exec) (hZ : Z.Warmed39 s.vm) (hown : s.vm.findClass own = some m.cls) (w : (Jvm.Cond.fieldLink own index C n d).before a0 Z = true) (F : Fld Z h a C n d v) (hd : decode c.code pc = .ok (.getfield index, 3))
    (k : ∀ T', own_S p l e R s m args below meth c n0 h0 ws T' h cells slots → own_G p e below G T' (mkF m (pc + 3) Ls (v :: rest))) : own_G p e below G T (mkF m pc Ls (.ref a :: rest)) := by
  obtain ⟨⟨locs, X, N⟩, e0, K⟩ := X
  obtain ⟨T1, X1, e1, st⟩ := getF X hx hZ hown (host := "") (Or.inl w) Via.refl e0 F (g := mkF m pc Ls (.ref a :: rest)) rfl rfl hd
  exact own_st st (k T1 ⟨⟨_, X1, N⟩, e1, K⟩)
theorem own_getS {C n d : String} {v : Value} (X : own_S p l e R s m args below meth c n0 h0 ws T h cells slots) (hx : p.tables.exec = Jvm.exec) (hZ : Z.Warmed39 s.vm) (hown : s.vm.findClass own = some m.cls) (w : (Jvm.Cond.fieldLink own index C n d).before a0 Z = true) (F : Sta Z h C n d v) (hd : decode c.code pc = .ok (.getstatic index, 3))
    (k : ∀ T', own_S p l e R s m args below meth c n0 h0 ws T' h cells slots → own_G p e below G T' (mkF m (pc + 3) Ls (v :: rest))) : own_G p e below G T (mkF m pc Ls rest) := by
  obtain ⟨⟨locs, X, N⟩, e0, K⟩ := X
  obtain ⟨T1, X1, e1, st⟩ := getS2 X hx hZ hown (host := "") (Or.inl w) Via.refl e0 F (g := mkF m pc Ls rest) rfl hd
  exact own_st st (k T1 ⟨⟨_, X1, N⟩, e1, K⟩)
theorem own_putF {a : Addr} {C n d : String} {v old : Value} {kk : Nat} {ty : FieldType} (X : own_S p l e R s m args below meth c n0 h0 ws T h cells slots) (hx : p.tables.exec = Jvm.exec) (hZ : Z.Warmed39 s.vm) (hown : s.vm.findClass own = some m.cls) (w : (Jvm.Cond.fieldLink own index C n d).before a0 Z = true) (F : Fld Z h a C n d old) (E : Exa Z h a C)
    (L : (Jvm.Cond.lays C C n d).before a0 Z = true ∨ ((Jvm.Cond.laysFinal C C n d).before a0 Z = true ∧ own = C ∧ meth.name = "<init>")) (wi : (Jvm.Cond.instantiable C kk).before a0 Z = true) (hty : parseFieldDescriptor d = some ty) (hn : narrow ty v = v) (hf : fits ty v = true) (hd : decode c.code pc = .ok (.putfield index, 3)) (ga : n0 ≤ a) (qa : a ∈ ws ∨ h0.size ≤ a)
    (k : ∀ T' h', own_S p l e R s m args below meth c n0 h0 ws T' h' cells slots → Wr h h' a (Jvm.RoadKit.slotOf Z C n d) v → Fld Z h' a C n d v → Exa Z h' a C → own_G p e below G T' (mkF m (pc + 3) Ls rest)) : own_G p e below G T (mkF m pc Ls (v :: .ref a :: rest)) := by
  obtain ⟨⟨locs, X, N⟩, e0, K⟩ := X
  obtain ⟨T1, h1, X1, e1, W1, st⟩ := putF X hx hZ hown (host := "") (Or.inl w) Via.refl e0 F E L wi hty hn hf (g := mkF m pc Ls (v :: .ref a :: rest)) rfl rfl hd
  exact own_st st (k T1 h1 ⟨⟨_, X1, Fr.snoc X1 N ga⟩, e1, K.wr W1 qa⟩ W1 (F.same W1) (E.wr W1))
theorem own_newO {C : String} {kk : Nat} (X : own_S p l e R s m args below meth c n0 h0 ws T h cells slots) (hx : p.tables.exec = Jvm.exec) (hZ : Z.Warmed39 s.vm) (hown : s.vm.findClass own = some m.cls) (w : (Jvm.Cond.classLink own index C).before a0 Z = true) (wi : (Jvm.Cond.instantiable C kk).before a0 Z = true) (wz : (Jvm.Cond.initialized C).before a0 Z = true) (hd : decode c.code pc = .ok (.new index, 3)) (hc : cells + 1 ≤ R.cells) (hl : slots + kk ≤ R.slots)
    (k : ∀ T' h' (b : Addr), b = h.size → h0.size ≤ b → own_S p l e R s m args below meth c n0 h0 ws T' h' (cells + 1) (slots + kk) → Ext h h' → Exa Z h' b C → (∀ {O nm d : String} {ty : FieldType}, Laid Z a0 C O nm d → parseFieldDescriptor d = some ty → Fld Z h' b O nm d (defaultValue ty)) → own_G p e below G T' (mkF m (pc + 3) Ls (.ref b :: rest))) : own_G p e below G T (mkF m pc Ls rest) := by
  obtain ⟨⟨locs, X, N⟩, e0, K⟩ := X
  obtain ⟨T1, h1, X1, e1, E1, A1, D1, -, st⟩ := newO X hx hZ hown w wi wz e0 (g := mkF m pc Ls rest) rfl hd hc hl
  exact own_st st (k T1 h1 _ rfl K.1 ⟨⟨_, X1, N⟩, e1, K.ext E1⟩ E1 A1 D1)
/-- a byte array with these elements -/
def own_B (Z : State) (h : Heap) (a : Addr) (L : List Int32) : Prop := ∃ c : Cell, Arr Z h a c .byte ∧ c.slots = (L.map Value.int).toArray
theorem own_B.lt {a : Addr} {L : List Int32} (B : own_B Z h a L) : a < h.size := by obtain ⟨c, A, _⟩ := B; exact A.lt
theorem own_B.ext {a : Addr} {L : List Int32} (B : own_B Z h a L) (E : Ext h h') : own_B Z h' a L := by obtain ⟨c, A, q⟩ := B; exact ⟨c, A.ext E, q⟩
theorem own_B.other {a b : Addr} {L : List Int32} {sl : Nat} {v : Value} (B : own_B Z h b L) (W : Wr h h' a sl v) (q : b ≠ a) : own_B Z h' b L := by obtain ⟨c, A, r⟩ := B; exact ⟨c, A.other W q, r⟩
theorem own_B.keep {a : Addr} {L : List Int32} (B : own_B Z h a L) (K : Keep h h' ws) (q : a ∉ ws) : own_B Z h' a L := by obtain ⟨c, A, r⟩ := B; exact ⟨c, ⟨K.2.1 a c A.1 q, A.2⟩, r⟩
theorem own_bload {a : Addr} {L : List Int32} {j v : Int32} (X : own_S p l e R s m args below meth c n0 h0 ws T h cells slots) (hx : p.tables.exec = Jvm.exec) (hZ : Z.Warmed39 s.vm) (B : own_B Z h a L) (hj : ¬ j < 0) (hv : L[j.toNatClampNeg]? = some v) (hd : decode c.code pc = .ok (.baload, 1))
    (k : own_G p e below G T (mkF m (pc + 1) Ls (.int v :: rest))) : own_G p e below G T (mkF m pc Ls (.int j :: .ref a :: rest)) := by
  obtain ⟨⟨locs, X, N⟩, e0, K⟩ := X
  obtain ⟨cl, A, q⟩ := B
  have h1 : cl.slots[j.toNatClampNeg]? = some (.int v) := by rw [q]; simp [hv]
  have h2 : ¬ (j < 0 ∨ cl.slots.size ≤ j.toNatClampNeg) := fun z => z.elim hj fun z => by
    have := (Array.getElem?_eq_some_iff.mp h1).1
    omega
  exact own_st (X.baloadBytes hx (j := j) (v := .int v) (by rw [e0]; exact A.1) (State.isArrayOf_alike hZ.alike A.2.1) A.2.2 h2 h1 (g := mkF m pc Ls (.int j :: .ref a :: rest)) rfl rfl hd) k
theorem own_bstore {a : Addr} {L : List Int32} {j x : Int32} (X : own_S p l e R s m args below meth c n0 h0 ws T h cells slots) (hx : p.tables.exec = Jvm.exec) (hZ : Z.Warmed39 s.vm) (B : own_B Z h a L) (hj : ¬ j < 0) (hv : j.toNatClampNeg < L.length) (hd : decode c.code pc = .ok (.bastore, 1)) (ga : n0 ≤ a) (qa : a ∈ ws ∨ h0.size ≤ a)
    (k : ∀ T' h', own_S p l e R s m args below meth c n0 h0 ws T' h' cells slots → Keep h h' [a] → Wr h h' a j.toNatClampNeg (.int (nar .byte x)) → own_B Z h' a (L.set j.toNatClampNeg x.toInt8.toInt32) → own_G p e below G T' (mkF m (pc + 1) Ls rest)) : own_G p e below G T (mkF m pc Ls (.int x :: .int j :: .ref a :: rest)) := by
  obtain ⟨⟨locs, X, N⟩, e0, K⟩ := X
  obtain ⟨cl, A, q⟩ := B
  have h2 : ¬ (j < 0 ∨ cl.slots.size ≤ j.toNatClampNeg) := fun z => z.elim hj fun z => by
    rw [q] at z
    simp at z
    omega
  obtain ⟨T1, h1, X1, e1, W1, st⟩ := stB X hx hZ e0 A (j := j) (x := x) h2 (g := mkF m pc Ls (.int x :: .int j :: .ref a :: rest)) rfl rfl hd
  refine own_st st (k T1 h1 ⟨⟨_, X1, Fr.snoc X1 N ga⟩, e1, K.wr W1 qa⟩ (Keep.of_wr W1) W1 ⟨_, A.same W1, ?_⟩)
  show (cl.slots.setIfInBounds j.toNatClampNeg _) = _
  rw [q]
  simp [nar]
theorem own_newB {n : Int32} {kk : Nat} (X : own_S p l e R s m args below meth c n0 h0 ws T h cells slots) (hx : p.tables.exec = Jvm.exec) (hZ : Z.Warmed39 s.vm) (w : (Jvm.Cond.arrayClass .byte).before a0 Z = true) (hn : ¬ n < 0) (hk : n.toNatClampNeg = kk) (hb : kk * 8 ≤ 536870912) (hc : cells + 1 ≤ R.cells) (hl : slots + kk ≤ R.slots) (hd : decode c.code pc = .ok (.newarray .byte, 2))
    (k : ∀ T' h' (b : Addr), b = h.size → h0.size ≤ b → own_S p l e R s m args below meth c n0 h0 ws T' h' (cells + 1) (slots + kk) → Ext h h' → own_B Z h' b (List.replicate kk 0) → own_G p e below G T' (mkF m (pc + 2) Ls (.ref b :: rest))) : own_G p e below G T (mkF m pc Ls (.int n :: rest)) := by
  obtain ⟨⟨locs, X, N⟩, e0, K⟩ := X
  obtain ⟨T1, h1, cA, X1, e1, E1, A1, st⟩ := newP X hx hZ (aty := .byte) w e0 (g := mkF m pc Ls (.int n :: rest)) rfl hd rfl hn (cap := kk) (Nat.le_of_eq hk) hb hc hl
  refine own_st st (k T1 h1 _ rfl K.1 ⟨⟨_, X1, N⟩, e1, K.ext E1⟩ E1 ⟨_, A1, ?_⟩)
  show Array.replicate n.toNatClampNeg (defaultValue .byte) = _
  rw [hk]
  simp [defaultValue]
end Heap
end Own
theorem own_w0 {Z : State} {a0 : Array Value} (hw : ∀ d ∈ tables_1, d.before a0 Z = true) : (Jvm.Cond.constant "com/example/luoshu/luoshu/WordsReadPinLaw" (7 : Nat) (2147483647 : Int32)).before a0 Z = true := hw _ (List.mem_of_getElem? (i := 0) rfl)
theorem own_w1 {Z : State} {a0 : Array Value} (hw : ∀ d ∈ tables_1, d.before a0 Z = true) : (Jvm.Cond.arrayClass Jvm.ClassFile.FieldType.byte).before a0 Z = true := hw _ (List.mem_of_getElem? (i := 1) rfl)
theorem own_w2 {Z : State} {a0 : Array Value} (hw : ∀ d ∈ tables_1, d.before a0 Z = true) : (Jvm.Cond.constantLong "com/example/luoshu/luoshu/WordsReadPinLaw" (8 : Nat) (4294967295 : Int64)).before a0 Z = true := hw _ (List.mem_of_getElem? (i := 2) rfl)
theorem own_w3 {Z : State} {a0 : Array Value} (hw : ∀ d ∈ tables_1, d.before a0 Z = true) : (Jvm.Cond.constantLong "com/example/luoshu/luoshu/WordsReadPinLaw" (10 : Nat) (16777216 : Int64)).before a0 Z = true := hw _ (List.mem_of_getElem? (i := 3) rfl)
theorem own_w4 {Z : State} {a0 : Array Value} (hw : ∀ d ∈ tables_1, d.before a0 Z = true) : (Jvm.Cond.constantLong "com/example/luoshu/luoshu/WordsReadPinLaw" (12 : Nat) (65536 : Int64)).before a0 Z = true := hw _ (List.mem_of_getElem? (i := 4) rfl)
theorem own_w5 {Z : State} {a0 : Array Value} (hw : ∀ d ∈ tables_1, d.before a0 Z = true) : (Jvm.Cond.constantLong "com/example/luoshu/luoshu/WordsReadPinLaw" (14 : Nat) (256 : Int64)).before a0 Z = true := hw _ (List.mem_of_getElem? (i := 5) rfl)
theorem own_w6 {Z : State} {a0 : Array Value} (hw : ∀ d ∈ tables_1, d.before a0 Z = true) : (Jvm.Cond.methodLink "com/example/luoshu/luoshu/WordsReadPinLaw" (16 : Nat) ({ cls := "com/example/luoshu/luoshu/Words", name := "read", desc := "([BI)I" } : Jvm.MethodName)).before a0 Z = true := hw _ (List.mem_of_getElem? (i := 6) rfl)
theorem own_w7 {Z : State} {a0 : Array Value} (hw : ∀ d ∈ tables_1, d.before a0 Z = true) : (Jvm.Cond.static ({ cls := "com/example/luoshu/luoshu/Words", name := "read", desc := "([BI)I" } : Jvm.MethodName)).before a0 Z = true := hw _ (List.mem_of_getElem? (i := 7) rfl)
theorem own_w8 {Z : State} {a0 : Array Value} (hw : ∀ d ∈ tables_1, d.before a0 Z = true) : (Jvm.Cond.initialized "com/example/luoshu/luoshu/Words").before a0 Z = true := hw _ (List.mem_of_getElem? (i := 8) rfl)
theorem own_w9 {Z : State} {a0 : Array Value} (hw : ∀ d ∈ tables_1, d.before a0 Z = true) : (Jvm.Cond.code ({ cls := "com/example/luoshu/luoshu/Words", name := "read", desc := "([BI)I" } : Jvm.MethodName) prog_26_method_2_code (2 : Nat) (Option.some Jvm.ClassFile.FieldType.int)).before a0 Z = true := hw _ (List.mem_of_getElem? (i := 9) rfl)
theorem own_pd0 : parseMethodDescriptor "([BI)I" = some ⟨[(.array .byte), .int], some .int⟩ := by decide +kernel
theorem own_pn0 : plainName "com/example/luoshu/luoshu/Words" = true := by first | (simp [plainName, overriddenIn]; done) | decide +kernel
theorem own_pd1 : parseMethodDescriptor "(III)Z" = some ⟨[.int, .int, .int], some .boolean⟩ := by decide +kernel
theorem own_pn1 : plainName "com/example/luoshu/luoshu/WordsReadPinLaw" = true := by first | (simp [plainName, overriddenIn]; done) | decide +kernel
theorem own_nat (x : Int32) (hx : 0 ≤ x.toInt) : x.toInt = (x.toBitVec.toNat : Int) ∧ x.toBitVec.toNat < 2147483648 := by
  have e : x.toInt = x.toBitVec.toInt := rfl
  have := x.toBitVec.isLt
  rw [e, BitVec.toInt_eq_toNat_cond] at hx ⊢
  split at hx <;> rename_i q
  · rw [if_pos q]; omega
  · omega
theorem own_ofnat (x : Int32) (h : x.toBitVec.toNat < 2147483648) : x.toInt = (x.toBitVec.toNat : Int) := by
  have e : x.toInt = x.toBitVec.toInt := rfl
  rw [e, BitVec.toInt_eq_toNat_cond, if_pos (by omega)]
theorem own_i2c (x : Int32) : (x.toUInt32.toUInt16.toUInt32.toInt32).toInt = x.toInt % 65536 := by
  have n1 : (x.toUInt32.toUInt16.toUInt32.toInt32).toBitVec.toNat = x.toBitVec.toNat % 65536 := by simp
  rw [own_ofnat _ (by omega), n1]
  have e2 : x.toInt = Int.bmod x.toBitVec.toNat (2 ^ 32) := BitVec.toInt_eq_toNat_bmod _
  rw [e2, Int.bmod_def]
  omega
theorem own_i2b (x : Int32) : (x.toInt8.toInt32).toInt = (x.toInt + 128) % 256 - 128 := by
  rw [Int8.toInt_toInt32, Int32.toInt_toInt8, Int.bmod_def]
  omega
theorem own_or4 (A B C D : Nat) (hA : A < 256) (hB : B < 256) (hC : C < 256) (hD : D < 256) : ((A <<< 24 ||| B <<< 16) ||| C <<< 8) ||| D = A * 16777216 + B * 65536 + C * 256 + D := by
  have h1 : B <<< 16 < 2 ^ 24 := by rw [Nat.shiftLeft_eq]; omega
  rw [← Nat.shiftLeft_add_eq_or_of_lt h1]
  have e1 : A <<< 24 + B <<< 16 = (A * 256 + B) <<< 16 := by rw [Nat.shiftLeft_eq, Nat.shiftLeft_eq, Nat.shiftLeft_eq]; omega
  have h2 : C <<< 8 < 2 ^ 16 := by rw [Nat.shiftLeft_eq]; omega
  rw [e1, ← Nat.shiftLeft_add_eq_or_of_lt h2]
  have e2 : (A * 256 + B) <<< 16 + C <<< 8 = (A * 65536 + B * 256 + C) <<< 8 := by rw [Nat.shiftLeft_eq, Nat.shiftLeft_eq, Nat.shiftLeft_eq]; omega
  have h3 : D < 2 ^ 8 := hD
  rw [e2, ← Nat.shiftLeft_add_eq_or_of_lt h3, Nat.shiftLeft_eq]
  omega
theorem own_unat (x : Int32) : ((x.toBitVec.toNat : Nat) : Int) = x.toInt % 4294967296 := by
  have e2 : x.toInt = Int.bmod x.toBitVec.toNat (2 ^ 32) := BitVec.toInt_eq_toNat_bmod _
  have := x.toBitVec.isLt
  rw [e2, Int.bmod_def]
  omega
/-- the byte under a mask: its value as a number -/
theorem own_mask8 (x : Int32) : (x.toInt8.toInt32 &&& 255).toBitVec.toNat = x.toBitVec.toNat % 256 := by
  have m : (x.toInt8.toInt32 &&& 255).toInt = (x.toInt8.toInt32).toInt % 2 ^ 8 := Jvm.Kit.i32_mask _ 255 (by decide) (by decide)
  have u := own_unat (x.toInt8.toInt32 &&& 255)
  have v := own_unat x
  rw [own_i2b] at m
  omega
theorem own_shl (x : Int32) (n : Int32) {k : Nat} (hk : ((n &&& 31).toBitVec.smod 32).toNat = k) (hx : x.toBitVec.toNat <<< k < 4294967296) : (x <<< (n &&& 31)).toBitVec.toNat = x.toBitVec.toNat <<< k := by
  have e : (x <<< (n &&& 31)).toBitVec = x.toBitVec <<< ((n &&& 31).toBitVec.smod 32) := rfl
  rw [e, BitVec.shiftLeft_eq', BitVec.toNat_shiftLeft, hk]
  exact Nat.mod_eq_of_lt hx
theorem d1_0 : decode prog_26_method_2_code 0 = .ok (.aload_n 0, 1) := by decide +kernel
theorem d1_1 : decode prog_26_method_2_code 1 = .ok (.iload_n 1, 1) := by decide +kernel
theorem d1_2 : decode prog_26_method_2_code 2 = .ok (.baload, 1) := by decide +kernel
theorem d1_3 : decode prog_26_method_2_code 3 = .ok (.sipush 255, 3) := by decide +kernel
theorem d1_6 : decode prog_26_method_2_code 6 = .ok (.iand, 1) := by decide +kernel
theorem d1_7 : decode prog_26_method_2_code 7 = .ok (.bipush 24, 2) := by decide +kernel
theorem d1_9 : decode prog_26_method_2_code 9 = .ok (.ishl, 1) := by decide +kernel
theorem d1_10 : decode prog_26_method_2_code 10 = .ok (.aload_n 0, 1) := by decide +kernel
theorem d1_11 : decode prog_26_method_2_code 11 = .ok (.iload_n 1, 1) := by decide +kernel
theorem d1_12 : decode prog_26_method_2_code 12 = .ok (.iconst 1, 1) := by decide +kernel
theorem d1_13 : decode prog_26_method_2_code 13 = .ok (.iadd, 1) := by decide +kernel
theorem d1_14 : decode prog_26_method_2_code 14 = .ok (.baload, 1) := by decide +kernel
theorem d1_15 : decode prog_26_method_2_code 15 = .ok (.sipush 255, 3) := by decide +kernel
theorem d1_18 : decode prog_26_method_2_code 18 = .ok (.iand, 1) := by decide +kernel
theorem d1_19 : decode prog_26_method_2_code 19 = .ok (.bipush 16, 2) := by decide +kernel
theorem d1_21 : decode prog_26_method_2_code 21 = .ok (.ishl, 1) := by decide +kernel
theorem d1_22 : decode prog_26_method_2_code 22 = .ok (.ior, 1) := by decide +kernel
theorem d1_23 : decode prog_26_method_2_code 23 = .ok (.aload_n 0, 1) := by decide +kernel
theorem d1_24 : decode prog_26_method_2_code 24 = .ok (.iload_n 1, 1) := by decide +kernel
theorem d1_25 : decode prog_26_method_2_code 25 = .ok (.iconst 2, 1) := by decide +kernel
theorem d1_26 : decode prog_26_method_2_code 26 = .ok (.iadd, 1) := by decide +kernel
theorem d1_27 : decode prog_26_method_2_code 27 = .ok (.baload, 1) := by decide +kernel
theorem d1_28 : decode prog_26_method_2_code 28 = .ok (.sipush 255, 3) := by decide +kernel
theorem d1_31 : decode prog_26_method_2_code 31 = .ok (.iand, 1) := by decide +kernel
theorem d1_32 : decode prog_26_method_2_code 32 = .ok (.bipush 8, 2) := by decide +kernel
theorem d1_34 : decode prog_26_method_2_code 34 = .ok (.ishl, 1) := by decide +kernel
theorem d1_35 : decode prog_26_method_2_code 35 = .ok (.ior, 1) := by decide +kernel
theorem d1_36 : decode prog_26_method_2_code 36 = .ok (.aload_n 0, 1) := by decide +kernel
theorem d1_37 : decode prog_26_method_2_code 37 = .ok (.iload_n 1, 1) := by decide +kernel
theorem d1_38 : decode prog_26_method_2_code 38 = .ok (.iconst 3, 1) := by decide +kernel
theorem d1_39 : decode prog_26_method_2_code 39 = .ok (.iadd, 1) := by decide +kernel
theorem d1_40 : decode prog_26_method_2_code 40 = .ok (.baload, 1) := by decide +kernel
theorem d1_41 : decode prog_26_method_2_code 41 = .ok (.sipush 255, 3) := by decide +kernel
theorem d1_44 : decode prog_26_method_2_code 44 = .ok (.iand, 1) := by decide +kernel
theorem d1_45 : decode prog_26_method_2_code 45 = .ok (.ior, 1) := by decide +kernel
theorem d1_46 : decode prog_26_method_2_code 46 = .ok (.ireturn, 1) := by decide +kernel
/-- what the body returns -/
def own_F1 (p1 : Int32) (w0 : Int32) (w1 : Int32) (w2 : Int32) (w3 : Int32) : Int32 :=
  (((((w0 &&& (255 : Int32)) <<< ((24 : Int32) &&& 31)) ||| ((w1 &&& (255 : Int32)) <<< ((16 : Int32) &&& 31))) ||| ((w2 &&& (255 : Int32)) <<< ((8 : Int32) &&& 31))) ||| (w3 &&& (255 : Int32)))
theorem own_ef1 (m : MethodId) (r0 : Addr) (p1 : Int32) : entryFrame m #[(.ref r0), (.int p1)] 2 = mkF m 0 #[.val (.ref r0), .val (.int p1)] [] := by first | (simp [entryFrame, mkF, argsToLocals, Value.category]; done) | rfl
set_option maxRecDepth 65536 in
set_option maxHeartbeats 40000000 in
theorem own_c1 (l : Launch) (Z : State) (a0 : Array Value) (hw : ∀ d ∈ tables_1, d.before a0 Z = true) (h0 : Heap) (n0 : Nat) (Z0 : n0 ≤ h0.size) (r0 : Addr) (p1 : Int32) (w0 : Int32) (w1 : Int32) (w2 : Int32) (w3 : Int32) (L : List Int32) (B0 : own_B Z h0 r0 L) (hj0 : ¬ p1 < 0) (hv0 : L[p1.toNatClampNeg]? = some w0) (hj1 : ¬ (p1 + (1 : Int32)) < 0) (hv1 : L[(p1 + (1 : Int32)).toNatClampNeg]? = some w1) (hj2 : ¬ (p1 + (2 : Int32)) < 0) (hv2 : L[(p1 + (2 : Int32)).toNatClampNeg]? = some w2) (hj3 : ¬ (p1 + (3 : Int32)) < 0) (hv3 : L[(p1 + (3 : Int32)).toNatClampNeg]? = some w3) :
    own_M l (⟨"com/example/luoshu/luoshu/Words", "read", "([BI)I"⟩ : MethodName) prog_26_method_2_code 2 (some .int) [] ({ frames := 0, cells := 0, slots := 0, locals := 0 } : Room) Z #[(.ref r0), (.int p1)] h0 (own_Q n0 h0 [] (own_P (.int (own_F1 p1 w0 w1 w2 w3)) h0)) := by
  refine own_body (plainFor_of_name own_pn0) ?_
  intro p e s m below meth c T0 X0 hx hby hml hown hnm hret hlk hZ
  refine own_cast (own_ef1 m r0 p1) ?_
  refine own_st (f' := (mkF m 1 #[.val (.ref r0), .val (.int p1)] [(.ref r0)])) (fun t k => XS.aloadN X0.her hx rfl (hb hby d1_0) rfl rfl k) ?_
  refine own_st (f' := (mkF m 2 #[.val (.ref r0), .val (.int p1)] [(.int p1), (.ref r0)])) (fun t k => XS.iloadN X0.her hx rfl (hb hby d1_1) rfl k) ?_
  refine own_bload (v := w0) X0 hx hZ B0 hj0 hv0 (hb hby d1_2) ?_
  refine own_st (f' := (mkF m 6 #[.val (.ref r0), .val (.int p1)] [(.int (255 : Int32)), (.int w0)])) (fun t k => XS.sipush X0.her hx rfl (hb hby d1_3) k) ?_
  refine own_st (f' := (mkF m 7 #[.val (.ref r0), .val (.int p1)] [(.int (w0 &&& (255 : Int32)))])) (fun t k => XS.iand X0.her hx rfl (hb hby d1_6) rfl k) ?_
  refine own_st (f' := (mkF m 9 #[.val (.ref r0), .val (.int p1)] [(.int (24 : Int32)), (.int (w0 &&& (255 : Int32)))])) (fun t k => XS.bipush X0.her hx rfl (hb hby d1_7) k) ?_
  refine own_st (f' := (mkF m 10 #[.val (.ref r0), .val (.int p1)] [(.int ((w0 &&& (255 : Int32)) <<< ((24 : Int32) &&& 31)))])) (fun t k => XS.ishl X0.her hx rfl (hb hby d1_9) rfl k) ?_
  refine own_st (f' := (mkF m 11 #[.val (.ref r0), .val (.int p1)] [(.ref r0), (.int ((w0 &&& (255 : Int32)) <<< ((24 : Int32) &&& 31)))])) (fun t k => XS.aloadN X0.her hx rfl (hb hby d1_10) rfl rfl k) ?_
  refine own_st (f' := (mkF m 12 #[.val (.ref r0), .val (.int p1)] [(.int p1), (.ref r0), (.int ((w0 &&& (255 : Int32)) <<< ((24 : Int32) &&& 31)))])) (fun t k => XS.iloadN X0.her hx rfl (hb hby d1_11) rfl k) ?_
  refine own_st (f' := (mkF m 13 #[.val (.ref r0), .val (.int p1)] [(.int (1 : Int32)), (.int p1), (.ref r0), (.int ((w0 &&& (255 : Int32)) <<< ((24 : Int32) &&& 31)))])) (fun t k => XS.iconst X0.her hx rfl (hb hby d1_12) k) ?_
  refine own_st (f' := (mkF m 14 #[.val (.ref r0), .val (.int p1)] [(.int (p1 + (1 : Int32))), (.ref r0), (.int ((w0 &&& (255 : Int32)) <<< ((24 : Int32) &&& 31)))])) (fun t k => XS.iadd X0.her hx rfl (hb hby d1_13) rfl k) ?_
  refine own_bload (v := w1) X0 hx hZ B0 hj1 hv1 (hb hby d1_14) ?_
  refine own_st (f' := (mkF m 18 #[.val (.ref r0), .val (.int p1)] [(.int (255 : Int32)), (.int w1), (.int ((w0 &&& (255 : Int32)) <<< ((24 : Int32) &&& 31)))])) (fun t k => XS.sipush X0.her hx rfl (hb hby d1_15) k) ?_
  refine own_st (f' := (mkF m 19 #[.val (.ref r0), .val (.int p1)] [(.int (w1 &&& (255 : Int32))), (.int ((w0 &&& (255 : Int32)) <<< ((24 : Int32) &&& 31)))])) (fun t k => XS.iand X0.her hx rfl (hb hby d1_18) rfl k) ?_
  refine own_st (f' := (mkF m 21 #[.val (.ref r0), .val (.int p1)] [(.int (16 : Int32)), (.int (w1 &&& (255 : Int32))), (.int ((w0 &&& (255 : Int32)) <<< ((24 : Int32) &&& 31)))])) (fun t k => XS.bipush X0.her hx rfl (hb hby d1_19) k) ?_
  refine own_st (f' := (mkF m 22 #[.val (.ref r0), .val (.int p1)] [(.int ((w1 &&& (255 : Int32)) <<< ((16 : Int32) &&& 31))), (.int ((w0 &&& (255 : Int32)) <<< ((24 : Int32) &&& 31)))])) (fun t k => XS.ishl X0.her hx rfl (hb hby d1_21) rfl k) ?_
  refine own_st (f' := (mkF m 23 #[.val (.ref r0), .val (.int p1)] [(.int (((w0 &&& (255 : Int32)) <<< ((24 : Int32) &&& 31)) ||| ((w1 &&& (255 : Int32)) <<< ((16 : Int32) &&& 31))))])) (fun t k => XS.ior X0.her hx rfl (hb hby d1_22) rfl k) ?_
  refine own_st (f' := (mkF m 24 #[.val (.ref r0), .val (.int p1)] [(.ref r0), (.int (((w0 &&& (255 : Int32)) <<< ((24 : Int32) &&& 31)) ||| ((w1 &&& (255 : Int32)) <<< ((16 : Int32) &&& 31))))])) (fun t k => XS.aloadN X0.her hx rfl (hb hby d1_23) rfl rfl k) ?_
  refine own_st (f' := (mkF m 25 #[.val (.ref r0), .val (.int p1)] [(.int p1), (.ref r0), (.int (((w0 &&& (255 : Int32)) <<< ((24 : Int32) &&& 31)) ||| ((w1 &&& (255 : Int32)) <<< ((16 : Int32) &&& 31))))])) (fun t k => XS.iloadN X0.her hx rfl (hb hby d1_24) rfl k) ?_
  refine own_st (f' := (mkF m 26 #[.val (.ref r0), .val (.int p1)] [(.int (2 : Int32)), (.int p1), (.ref r0), (.int (((w0 &&& (255 : Int32)) <<< ((24 : Int32) &&& 31)) ||| ((w1 &&& (255 : Int32)) <<< ((16 : Int32) &&& 31))))])) (fun t k => XS.iconst X0.her hx rfl (hb hby d1_25) k) ?_
  refine own_st (f' := (mkF m 27 #[.val (.ref r0), .val (.int p1)] [(.int (p1 + (2 : Int32))), (.ref r0), (.int (((w0 &&& (255 : Int32)) <<< ((24 : Int32) &&& 31)) ||| ((w1 &&& (255 : Int32)) <<< ((16 : Int32) &&& 31))))])) (fun t k => XS.iadd X0.her hx rfl (hb hby d1_26) rfl k) ?_
  refine own_bload (v := w2) X0 hx hZ B0 hj2 hv2 (hb hby d1_27) ?_
  refine own_st (f' := (mkF m 31 #[.val (.ref r0), .val (.int p1)] [(.int (255 : Int32)), (.int w2), (.int (((w0 &&& (255 : Int32)) <<< ((24 : Int32) &&& 31)) ||| ((w1 &&& (255 : Int32)) <<< ((16 : Int32) &&& 31))))])) (fun t k => XS.sipush X0.her hx rfl (hb hby d1_28) k) ?_
  refine own_st (f' := (mkF m 32 #[.val (.ref r0), .val (.int p1)] [(.int (w2 &&& (255 : Int32))), (.int (((w0 &&& (255 : Int32)) <<< ((24 : Int32) &&& 31)) ||| ((w1 &&& (255 : Int32)) <<< ((16 : Int32) &&& 31))))])) (fun t k => XS.iand X0.her hx rfl (hb hby d1_31) rfl k) ?_
  refine own_st (f' := (mkF m 34 #[.val (.ref r0), .val (.int p1)] [(.int (8 : Int32)), (.int (w2 &&& (255 : Int32))), (.int (((w0 &&& (255 : Int32)) <<< ((24 : Int32) &&& 31)) ||| ((w1 &&& (255 : Int32)) <<< ((16 : Int32) &&& 31))))])) (fun t k => XS.bipush X0.her hx rfl (hb hby d1_32) k) ?_
  refine own_st (f' := (mkF m 35 #[.val (.ref r0), .val (.int p1)] [(.int ((w2 &&& (255 : Int32)) <<< ((8 : Int32) &&& 31))), (.int (((w0 &&& (255 : Int32)) <<< ((24 : Int32) &&& 31)) ||| ((w1 &&& (255 : Int32)) <<< ((16 : Int32) &&& 31))))])) (fun t k => XS.ishl X0.her hx rfl (hb hby d1_34) rfl k) ?_
  refine own_st (f' := (mkF m 36 #[.val (.ref r0), .val (.int p1)] [(.int ((((w0 &&& (255 : Int32)) <<< ((24 : Int32) &&& 31)) ||| ((w1 &&& (255 : Int32)) <<< ((16 : Int32) &&& 31))) ||| ((w2 &&& (255 : Int32)) <<< ((8 : Int32) &&& 31))))])) (fun t k => XS.ior X0.her hx rfl (hb hby d1_35) rfl k) ?_
  refine own_st (f' := (mkF m 37 #[.val (.ref r0), .val (.int p1)] [(.ref r0), (.int ((((w0 &&& (255 : Int32)) <<< ((24 : Int32) &&& 31)) ||| ((w1 &&& (255 : Int32)) <<< ((16 : Int32) &&& 31))) ||| ((w2 &&& (255 : Int32)) <<< ((8 : Int32) &&& 31))))])) (fun t k => XS.aloadN X0.her hx rfl (hb hby d1_36) rfl rfl k) ?_
  refine own_st (f' := (mkF m 38 #[.val (.ref r0), .val (.int p1)] [(.int p1), (.ref r0), (.int ((((w0 &&& (255 : Int32)) <<< ((24 : Int32) &&& 31)) ||| ((w1 &&& (255 : Int32)) <<< ((16 : Int32) &&& 31))) ||| ((w2 &&& (255 : Int32)) <<< ((8 : Int32) &&& 31))))])) (fun t k => XS.iloadN X0.her hx rfl (hb hby d1_37) rfl k) ?_
  refine own_st (f' := (mkF m 39 #[.val (.ref r0), .val (.int p1)] [(.int (3 : Int32)), (.int p1), (.ref r0), (.int ((((w0 &&& (255 : Int32)) <<< ((24 : Int32) &&& 31)) ||| ((w1 &&& (255 : Int32)) <<< ((16 : Int32) &&& 31))) ||| ((w2 &&& (255 : Int32)) <<< ((8 : Int32) &&& 31))))])) (fun t k => XS.iconst X0.her hx rfl (hb hby d1_38) k) ?_
  refine own_st (f' := (mkF m 40 #[.val (.ref r0), .val (.int p1)] [(.int (p1 + (3 : Int32))), (.ref r0), (.int ((((w0 &&& (255 : Int32)) <<< ((24 : Int32) &&& 31)) ||| ((w1 &&& (255 : Int32)) <<< ((16 : Int32) &&& 31))) ||| ((w2 &&& (255 : Int32)) <<< ((8 : Int32) &&& 31))))])) (fun t k => XS.iadd X0.her hx rfl (hb hby d1_39) rfl k) ?_
  refine own_bload (v := w3) X0 hx hZ B0 hj3 hv3 (hb hby d1_40) ?_
  refine own_st (f' := (mkF m 44 #[.val (.ref r0), .val (.int p1)] [(.int (255 : Int32)), (.int w3), (.int ((((w0 &&& (255 : Int32)) <<< ((24 : Int32) &&& 31)) ||| ((w1 &&& (255 : Int32)) <<< ((16 : Int32) &&& 31))) ||| ((w2 &&& (255 : Int32)) <<< ((8 : Int32) &&& 31))))])) (fun t k => XS.sipush X0.her hx rfl (hb hby d1_41) k) ?_
  refine own_st (f' := (mkF m 45 #[.val (.ref r0), .val (.int p1)] [(.int (w3 &&& (255 : Int32))), (.int ((((w0 &&& (255 : Int32)) <<< ((24 : Int32) &&& 31)) ||| ((w1 &&& (255 : Int32)) <<< ((16 : Int32) &&& 31))) ||| ((w2 &&& (255 : Int32)) <<< ((8 : Int32) &&& 31))))])) (fun t k => XS.iand X0.her hx rfl (hb hby d1_44) rfl k) ?_
  refine own_st (f' := (mkF m 46 #[.val (.ref r0), .val (.int p1)] [(.int (((((w0 &&& (255 : Int32)) <<< ((24 : Int32) &&& 31)) ||| ((w1 &&& (255 : Int32)) <<< ((16 : Int32) &&& 31))) ||| ((w2 &&& (255 : Int32)) <<< ((8 : Int32) &&& 31))) ||| (w3 &&& (255 : Int32))))])) (fun t k => XS.ior X0.her hx rfl (hb hby d1_45) rfl k) ?_
  refine own_retI X0 hx hret hlk (hb hby d1_46) (by first | decide | omega) (by first | decide | omega) ?_
  exact ⟨congrArg (fun q => some (Value.int q)) (by unfold own_F1; first | done | exact rfl), rfl⟩
def own_t0_6 (p0 : Int32) (p1 : Int32) (p2 : Int32) : Int32 := ((p1 &&& (2147483647 : Int32)) % (5 : Int32))
def own_t0_73 (p0 : Int32) (p1 : Int32) (p2 : Int32) : Int64 := ((p0.toInt64) &&& (4294967295 : Int64))
/-- the plain law -/
theorem own_off (p0 p1 p2 : Int32) : own_t0_6 p0 p1 p2 = 0 ∨ own_t0_6 p0 p1 p2 = 1 ∨ own_t0_6 p0 p1 p2 = 2 ∨ own_t0_6 p0 p1 p2 = 3 ∨ own_t0_6 p0 p1 p2 = 4 := by
  have m1 : (p1 &&& 2147483647).toInt = p1.toInt % 2 ^ 31 := Jvm.Kit.i32_mask p1 2147483647 (k := 31) (by decide) (by decide)
  have r : (own_t0_6 p0 p1 p2).toInt = (p1 &&& 2147483647).toInt % 5 := by
    show ((p1 &&& 2147483647) % 5).toInt = _
    rw [Jvm.Kit.i32_rem_nonneg (by omega)]; rfl
  simp only [← Int32.toInt_inj, show (0 : Int32).toInt = 0 from rfl, show (1 : Int32).toInt = 1 from rfl, show (2 : Int32).toInt = 2 from rfl, show (3 : Int32).toInt = 3 from rfl, show (4 : Int32).toInt = 4 from rfl]
  omega
theorem own_read (p0 p1 p2 off : Int32) : own_F1 off ((own_t0_73 p0 p1 p2 / (16777216 : Int64)).toInt32.toInt8.toInt32) (((own_t0_73 p0 p1 p2 / (65536 : Int64)) % (256 : Int64)).toInt32.toInt8.toInt32) (((own_t0_73 p0 p1 p2 / (256 : Int64)) % (256 : Int64)).toInt32.toInt8.toInt32) ((own_t0_73 p0 p1 p2 % (256 : Int64)).toInt32.toInt8.toInt32) = p0 := by
  have m : (own_t0_73 p0 p1 p2).toInt = p0.toInt64.toInt % 2 ^ 32 := Jvm.Kit.i64_mask p0.toInt64 4294967295 (by decide) (by decide)
  rw [Jvm.Kit.i64_of_i32] at m
  have u := own_unat p0
  generalize own_t0_73 p0 p1 p2 = t at *
  have z1 : (16777216 : Int64).toInt = 16777216 := rfl
  have z2 : (65536 : Int64).toInt = 65536 := rfl
  have z3 : (256 : Int64).toInt = 256 := rfl
  have d1 : (t / 16777216).toInt = t.toInt / 16777216 := by rw [Jvm.Kit.i64_div (fun h => absurd h.2 (by decide)), z1, Int.tdiv_eq_ediv_of_nonneg (by omega)]
  have d2 : (t / 65536).toInt = t.toInt / 65536 := by rw [Jvm.Kit.i64_div (fun h => absurd h.2 (by decide)), z2, Int.tdiv_eq_ediv_of_nonneg (by omega)]
  have d3 : (t / 256).toInt = t.toInt / 256 := by rw [Jvm.Kit.i64_div (fun h => absurd h.2 (by decide)), z3, Int.tdiv_eq_ediv_of_nonneg (by omega)]
  have r2 : (t / 65536 % 256).toInt = t.toInt / 65536 % 256 := by rw [Int64.toInt_mod, z3, d2, Int.tmod_eq_emod_of_nonneg (by omega)]
  have r3 : (t / 256 % 256).toInt = t.toInt / 256 % 256 := by rw [Int64.toInt_mod, z3, d3, Int.tmod_eq_emod_of_nonneg (by omega)]
  have r4 : (t % 256).toInt = t.toInt % 256 := by rw [Int64.toInt_mod, z3, Int.tmod_eq_emod_of_nonneg (by omega)]
  have c1 : (t / 16777216).toInt32.toInt = t.toInt / 16777216 := by rw [Jvm.Kit.i32_of_i64 (by omega) (by omega), d1]
  have c2 : (t / 65536 % 256).toInt32.toInt = t.toInt / 65536 % 256 := by rw [Jvm.Kit.i32_of_i64 (by omega) (by omega), r2]
  have c3 : (t / 256 % 256).toInt32.toInt = t.toInt / 256 % 256 := by rw [Jvm.Kit.i32_of_i64 (by omega) (by omega), r3]
  have c4 : (t % 256).toInt32.toInt = t.toInt % 256 := by rw [Jvm.Kit.i32_of_i64 (by omega) (by omega), r4]
  have u1 := own_unat (t / 16777216).toInt32
  have u2 := own_unat (t / 65536 % 256).toInt32
  have u3 := own_unat (t / 256 % 256).toInt32
  have u4 := own_unat (t % 256).toInt32
  generalize (t / 16777216).toInt32 = A at *
  generalize (t / 65536 % 256).toInt32 = B at *
  generalize (t / 256 % 256).toInt32 = C at *
  generalize (t % 256).toInt32 = D at *
  have a1 := own_mask8 A
  have a2 := own_mask8 B
  have a3 := own_mask8 C
  have a4 := own_mask8 D
  unfold own_F1
  apply Int32.toBitVec_inj.mp
  apply BitVec.eq_of_toNat_eq
  have s1 : ((A.toInt8.toInt32 &&& 255) <<< ((24 : Int32) &&& 31)).toBitVec.toNat = (A.toInt8.toInt32 &&& 255).toBitVec.toNat <<< 24 := own_shl _ 24 (by decide) (by rw [Nat.shiftLeft_eq]; omega)
  have s2 : ((B.toInt8.toInt32 &&& 255) <<< ((16 : Int32) &&& 31)).toBitVec.toNat = (B.toInt8.toInt32 &&& 255).toBitVec.toNat <<< 16 := own_shl _ 16 (by decide) (by rw [Nat.shiftLeft_eq]; omega)
  have s3 : ((C.toInt8.toInt32 &&& 255) <<< ((8 : Int32) &&& 31)).toBitVec.toNat = (C.toInt8.toInt32 &&& 255).toBitVec.toNat <<< 8 := own_shl _ 8 (by decide) (by rw [Nat.shiftLeft_eq]; omega)
  rw [Int32.toBitVec_or, Int32.toBitVec_or, Int32.toBitVec_or, BitVec.toNat_or, BitVec.toNat_or, BitVec.toNat_or, s1, s2, s3, a1, a2, a3, a4, own_or4 _ _ _ _ (by omega) (by omega) (by omega) (by omega)]
  omega
theorem own_ef0 (m : MethodId) (p0 : Int32) (p1 : Int32) (p2 : Int32) : entryFrame m #[(.int p0), (.int p1), (.int p2)] maxLocals = mkF m 0 #[.val (.int p0), .val (.int p1), .val (.int p2), .unset, .unset, .unset, .unset, .unset] [] := by first | (simp [entryFrame, mkF, argsToLocals, Value.category, maxLocals]; done) | rfl
set_option maxRecDepth 65536 in
set_option maxHeartbeats 40000000 in
theorem own_c0 (l : Launch) (Z : State) (a0 : Array Value) (hw : ∀ d ∈ tables_1, d.before a0 Z = true) (h0 : Heap) (n0 : Nat) (Z0 : n0 ≤ h0.size) (p0 : Int32) (p1 : Int32) (p2 : Int32) :
    own_M l x code maxLocals ret tables_1 room_1 Z #[(.int p0), (.int p1), (.int p2)] h0 (own_Q n0 h0 [] (fun v _ => v = some (.int 1))) := by
  refine own_body (plainFor_of_name own_pn1) ?_
  intro p e s m below meth c T0 X0 hx hby hml hown hnm hret hlk hZ
  refine own_cast (own_ef0 m p0 p1 p2) ?_
  refine own_st (f' := (mkF m 1 #[.val (.int p0), .val (.int p1), .val (.int p2), .unset, .unset, .unset, .unset, .unset] [(.int p1)])) (fun t k => XS.iloadN X0.her hx rfl (hb hby at_0) rfl k) ?_
  refine own_ldcI X0 hx hZ hown (own_w0 hw) (hb hby at_1) ?_
  refine own_st (f' := (mkF m 4 #[.val (.int p0), .val (.int p1), .val (.int p2), .unset, .unset, .unset, .unset, .unset] [(.int (p1 &&& (2147483647 : Int32)))])) (fun t k => XS.iand X0.her hx rfl (hb hby at_3) rfl k) ?_
  refine own_st (f' := (mkF m 5 #[.val (.int p0), .val (.int p1), .val (.int p2), .unset, .unset, .unset, .unset, .unset] [(.int (5 : Int32)), (.int (p1 &&& (2147483647 : Int32)))])) (fun t k => XS.iconst X0.her hx rfl (hb hby at_4) k) ?_
  refine own_irem X0 hx (hb hby at_5) (by decide) ?_
  refine own_st (f' := (mkF m 7 #[.val (.int p0), .val (.int p1), .val (.int p2), .val (.int (own_t0_6 p0 p1 p2)), .unset, .unset, .unset, .unset] [])) (fun t k => XS.istoreN X0.her hx rfl (hb hby at_6) rfl (l' := #[.val (.int p0), .val (.int p1), .val (.int p2), .val (.int (own_t0_6 p0 p1 p2)), .unset, .unset, .unset, .unset]) rfl k) ?_
  refine own_st (f' := (mkF m 8 #[.val (.int p0), .val (.int p1), .val (.int p2), .val (.int (own_t0_6 p0 p1 p2)), .unset, .unset, .unset, .unset] [(.int p2)])) (fun t k => XS.iloadN X0.her hx rfl (hb hby at_7) rfl k) ?_
  refine own_st (f' := (mkF m 9 #[.val (.int p0), .val (.int p1), .val (.int p2), .val (.int (own_t0_6 p0 p1 p2)), .unset, .unset, .unset, .unset] [(.int (p2.toInt8.toInt32))])) (fun t k => XS.i2b X0.her hx rfl (hb hby at_8) rfl k) ?_
  refine own_st (f' := (mkF m 11 #[.val (.int p0), .val (.int p1), .val (.int p2), .val (.int (own_t0_6 p0 p1 p2)), .val (.int (p2.toInt8.toInt32)), .unset, .unset, .unset] [])) (fun t k => XS.istore X0.her hx rfl (hb hby at_9) rfl (l' := #[.val (.int p0), .val (.int p1), .val (.int p2), .val (.int (own_t0_6 p0 p1 p2)), .val (.int (p2.toInt8.toInt32)), .unset, .unset, .unset]) rfl k) ?_
  refine own_st (f' := (mkF m 13 #[.val (.int p0), .val (.int p1), .val (.int p2), .val (.int (own_t0_6 p0 p1 p2)), .val (.int (p2.toInt8.toInt32)), .unset, .unset, .unset] [(.int (8 : Int32))])) (fun t k => XS.bipush X0.her hx rfl (hb hby at_11) k) ?_
  refine own_newB (kk := 8) X0 hx hZ (own_w1 hw) (by decide) rfl (by decide) (by decide) (by decide) (hb hby at_13) ?_
  intro T1 h1 b1 g1 q1 X1 E1 B1
  replace B1 : own_B Z h1 b1 [(0 : Int32), (0 : Int32), (0 : Int32), (0 : Int32), (0 : Int32), (0 : Int32), (0 : Int32), (0 : Int32)] := B1
  have ga_b1 : n0 ≤ b1 := Nat.le_trans Z0 q1
  have Zn1 : n0 ≤ h1.size := Nat.le_trans Z0 E1.1
  refine own_st (f' := (mkF m 17 #[.val (.int p0), .val (.int p1), .val (.int p2), .val (.int (own_t0_6 p0 p1 p2)), .val (.int (p2.toInt8.toInt32)), .val (.ref b1), .unset, .unset] [])) (fun t k => XS.astore X1.her hx rfl (hb hby at_15) rfl rfl (l' := #[.val (.int p0), .val (.int p1), .val (.int p2), .val (.int (own_t0_6 p0 p1 p2)), .val (.int (p2.toInt8.toInt32)), .val (.ref b1), .unset, .unset]) rfl k) ?_
  refine own_st (f' := (mkF m 19 #[.val (.int p0), .val (.int p1), .val (.int p2), .val (.int (own_t0_6 p0 p1 p2)), .val (.int (p2.toInt8.toInt32)), .val (.ref b1), .unset, .unset] [(.ref b1)])) (fun t k => XS.aload X1.her hx rfl (hb hby at_17) rfl rfl k) ?_
  refine own_st (f' := (mkF m 20 #[.val (.int p0), .val (.int p1), .val (.int p2), .val (.int (own_t0_6 p0 p1 p2)), .val (.int (p2.toInt8.toInt32)), .val (.ref b1), .unset, .unset] [(.int (0 : Int32)), (.ref b1)])) (fun t k => XS.iconst X1.her hx rfl (hb hby at_19) k) ?_
  refine own_st (f' := (mkF m 22 #[.val (.int p0), .val (.int p1), .val (.int p2), .val (.int (own_t0_6 p0 p1 p2)), .val (.int (p2.toInt8.toInt32)), .val (.ref b1), .unset, .unset] [(.int (p2.toInt8.toInt32)), (.int (0 : Int32)), (.ref b1)])) (fun t k => XS.iload X1.her hx rfl (hb hby at_20) rfl k) ?_
  refine own_bstore X1 hx hZ B1 (by decide) (by show 0 < 8; decide) (hb hby at_22) ga_b1 (Or.inr q1) ?_
  intro T2 h2 X2 K2 W2 B2
  rw [show ((p2.toInt8.toInt32)).toInt8.toInt32 = (p2.toInt8.toInt32) from own_b2 _] at B2
  replace B2 : own_B Z h2 b1 [(p2.toInt8.toInt32), (0 : Int32), (0 : Int32), (0 : Int32), (0 : Int32), (0 : Int32), (0 : Int32), (0 : Int32)] := B2
  have Zn2 : n0 ≤ h2.size := Nat.le_trans Zn1 K2.1
  refine own_st (f' := (mkF m 25 #[.val (.int p0), .val (.int p1), .val (.int p2), .val (.int (own_t0_6 p0 p1 p2)), .val (.int (p2.toInt8.toInt32)), .val (.ref b1), .unset, .unset] [(.ref b1)])) (fun t k => XS.aload X2.her hx rfl (hb hby at_23) rfl rfl k) ?_
  refine own_st (f' := (mkF m 26 #[.val (.int p0), .val (.int p1), .val (.int p2), .val (.int (own_t0_6 p0 p1 p2)), .val (.int (p2.toInt8.toInt32)), .val (.ref b1), .unset, .unset] [(.int (1 : Int32)), (.ref b1)])) (fun t k => XS.iconst X2.her hx rfl (hb hby at_25) k) ?_
  refine own_st (f' := (mkF m 28 #[.val (.int p0), .val (.int p1), .val (.int p2), .val (.int (own_t0_6 p0 p1 p2)), .val (.int (p2.toInt8.toInt32)), .val (.ref b1), .unset, .unset] [(.int (p2.toInt8.toInt32)), (.int (1 : Int32)), (.ref b1)])) (fun t k => XS.iload X2.her hx rfl (hb hby at_26) rfl k) ?_
  refine own_bstore X2 hx hZ B2 (by decide) (by show 1 < 8; decide) (hb hby at_28) ga_b1 (Or.inr q1) ?_
  intro T3 h3 X3 K3 W3 B3
  rw [show ((p2.toInt8.toInt32)).toInt8.toInt32 = (p2.toInt8.toInt32) from own_b2 _] at B3
  replace B3 : own_B Z h3 b1 [(p2.toInt8.toInt32), (p2.toInt8.toInt32), (0 : Int32), (0 : Int32), (0 : Int32), (0 : Int32), (0 : Int32), (0 : Int32)] := B3
  have Zn3 : n0 ≤ h3.size := Nat.le_trans Zn2 K3.1
  refine own_st (f' := (mkF m 31 #[.val (.int p0), .val (.int p1), .val (.int p2), .val (.int (own_t0_6 p0 p1 p2)), .val (.int (p2.toInt8.toInt32)), .val (.ref b1), .unset, .unset] [(.ref b1)])) (fun t k => XS.aload X3.her hx rfl (hb hby at_29) rfl rfl k) ?_
  refine own_st (f' := (mkF m 32 #[.val (.int p0), .val (.int p1), .val (.int p2), .val (.int (own_t0_6 p0 p1 p2)), .val (.int (p2.toInt8.toInt32)), .val (.ref b1), .unset, .unset] [(.int (2 : Int32)), (.ref b1)])) (fun t k => XS.iconst X3.her hx rfl (hb hby at_31) k) ?_
  refine own_st (f' := (mkF m 34 #[.val (.int p0), .val (.int p1), .val (.int p2), .val (.int (own_t0_6 p0 p1 p2)), .val (.int (p2.toInt8.toInt32)), .val (.ref b1), .unset, .unset] [(.int (p2.toInt8.toInt32)), (.int (2 : Int32)), (.ref b1)])) (fun t k => XS.iload X3.her hx rfl (hb hby at_32) rfl k) ?_
  refine own_bstore X3 hx hZ B3 (by decide) (by show 2 < 8; decide) (hb hby at_34) ga_b1 (Or.inr q1) ?_
  intro T4 h4 X4 K4 W4 B4
  rw [show ((p2.toInt8.toInt32)).toInt8.toInt32 = (p2.toInt8.toInt32) from own_b2 _] at B4
  replace B4 : own_B Z h4 b1 [(p2.toInt8.toInt32), (p2.toInt8.toInt32), (p2.toInt8.toInt32), (0 : Int32), (0 : Int32), (0 : Int32), (0 : Int32), (0 : Int32)] := B4
  have Zn4 : n0 ≤ h4.size := Nat.le_trans Zn3 K4.1
  refine own_st (f' := (mkF m 37 #[.val (.int p0), .val (.int p1), .val (.int p2), .val (.int (own_t0_6 p0 p1 p2)), .val (.int (p2.toInt8.toInt32)), .val (.ref b1), .unset, .unset] [(.ref b1)])) (fun t k => XS.aload X4.her hx rfl (hb hby at_35) rfl rfl k) ?_
  refine own_st (f' := (mkF m 38 #[.val (.int p0), .val (.int p1), .val (.int p2), .val (.int (own_t0_6 p0 p1 p2)), .val (.int (p2.toInt8.toInt32)), .val (.ref b1), .unset, .unset] [(.int (3 : Int32)), (.ref b1)])) (fun t k => XS.iconst X4.her hx rfl (hb hby at_37) k) ?_
  refine own_st (f' := (mkF m 40 #[.val (.int p0), .val (.int p1), .val (.int p2), .val (.int (own_t0_6 p0 p1 p2)), .val (.int (p2.toInt8.toInt32)), .val (.ref b1), .unset, .unset] [(.int (p2.toInt8.toInt32)), (.int (3 : Int32)), (.ref b1)])) (fun t k => XS.iload X4.her hx rfl (hb hby at_38) rfl k) ?_
  refine own_bstore X4 hx hZ B4 (by decide) (by show 3 < 8; decide) (hb hby at_40) ga_b1 (Or.inr q1) ?_
  intro T5 h5 X5 K5 W5 B5
  rw [show ((p2.toInt8.toInt32)).toInt8.toInt32 = (p2.toInt8.toInt32) from own_b2 _] at B5
  replace B5 : own_B Z h5 b1 [(p2.toInt8.toInt32), (p2.toInt8.toInt32), (p2.toInt8.toInt32), (p2.toInt8.toInt32), (0 : Int32), (0 : Int32), (0 : Int32), (0 : Int32)] := B5
  have Zn5 : n0 ≤ h5.size := Nat.le_trans Zn4 K5.1
  refine own_st (f' := (mkF m 43 #[.val (.int p0), .val (.int p1), .val (.int p2), .val (.int (own_t0_6 p0 p1 p2)), .val (.int (p2.toInt8.toInt32)), .val (.ref b1), .unset, .unset] [(.ref b1)])) (fun t k => XS.aload X5.her hx rfl (hb hby at_41) rfl rfl k) ?_
  refine own_st (f' := (mkF m 44 #[.val (.int p0), .val (.int p1), .val (.int p2), .val (.int (own_t0_6 p0 p1 p2)), .val (.int (p2.toInt8.toInt32)), .val (.ref b1), .unset, .unset] [(.int (4 : Int32)), (.ref b1)])) (fun t k => XS.iconst X5.her hx rfl (hb hby at_43) k) ?_
  refine own_st (f' := (mkF m 46 #[.val (.int p0), .val (.int p1), .val (.int p2), .val (.int (own_t0_6 p0 p1 p2)), .val (.int (p2.toInt8.toInt32)), .val (.ref b1), .unset, .unset] [(.int (p2.toInt8.toInt32)), (.int (4 : Int32)), (.ref b1)])) (fun t k => XS.iload X5.her hx rfl (hb hby at_44) rfl k) ?_
  refine own_bstore X5 hx hZ B5 (by decide) (by show 4 < 8; decide) (hb hby at_46) ga_b1 (Or.inr q1) ?_
  intro T6 h6 X6 K6 W6 B6
  rw [show ((p2.toInt8.toInt32)).toInt8.toInt32 = (p2.toInt8.toInt32) from own_b2 _] at B6
  replace B6 : own_B Z h6 b1 [(p2.toInt8.toInt32), (p2.toInt8.toInt32), (p2.toInt8.toInt32), (p2.toInt8.toInt32), (p2.toInt8.toInt32), (0 : Int32), (0 : Int32), (0 : Int32)] := B6
  have Zn6 : n0 ≤ h6.size := Nat.le_trans Zn5 K6.1
  refine own_st (f' := (mkF m 49 #[.val (.int p0), .val (.int p1), .val (.int p2), .val (.int (own_t0_6 p0 p1 p2)), .val (.int (p2.toInt8.toInt32)), .val (.ref b1), .unset, .unset] [(.ref b1)])) (fun t k => XS.aload X6.her hx rfl (hb hby at_47) rfl rfl k) ?_
  refine own_st (f' := (mkF m 50 #[.val (.int p0), .val (.int p1), .val (.int p2), .val (.int (own_t0_6 p0 p1 p2)), .val (.int (p2.toInt8.toInt32)), .val (.ref b1), .unset, .unset] [(.int (5 : Int32)), (.ref b1)])) (fun t k => XS.iconst X6.her hx rfl (hb hby at_49) k) ?_
  refine own_st (f' := (mkF m 52 #[.val (.int p0), .val (.int p1), .val (.int p2), .val (.int (own_t0_6 p0 p1 p2)), .val (.int (p2.toInt8.toInt32)), .val (.ref b1), .unset, .unset] [(.int (p2.toInt8.toInt32)), (.int (5 : Int32)), (.ref b1)])) (fun t k => XS.iload X6.her hx rfl (hb hby at_50) rfl k) ?_
  refine own_bstore X6 hx hZ B6 (by decide) (by show 5 < 8; decide) (hb hby at_52) ga_b1 (Or.inr q1) ?_
  intro T7 h7 X7 K7 W7 B7
  rw [show ((p2.toInt8.toInt32)).toInt8.toInt32 = (p2.toInt8.toInt32) from own_b2 _] at B7
  replace B7 : own_B Z h7 b1 [(p2.toInt8.toInt32), (p2.toInt8.toInt32), (p2.toInt8.toInt32), (p2.toInt8.toInt32), (p2.toInt8.toInt32), (p2.toInt8.toInt32), (0 : Int32), (0 : Int32)] := B7
  have Zn7 : n0 ≤ h7.size := Nat.le_trans Zn6 K7.1
  refine own_st (f' := (mkF m 55 #[.val (.int p0), .val (.int p1), .val (.int p2), .val (.int (own_t0_6 p0 p1 p2)), .val (.int (p2.toInt8.toInt32)), .val (.ref b1), .unset, .unset] [(.ref b1)])) (fun t k => XS.aload X7.her hx rfl (hb hby at_53) rfl rfl k) ?_
  refine own_st (f' := (mkF m 57 #[.val (.int p0), .val (.int p1), .val (.int p2), .val (.int (own_t0_6 p0 p1 p2)), .val (.int (p2.toInt8.toInt32)), .val (.ref b1), .unset, .unset] [(.int (6 : Int32)), (.ref b1)])) (fun t k => XS.bipush X7.her hx rfl (hb hby at_55) k) ?_
  refine own_st (f' := (mkF m 59 #[.val (.int p0), .val (.int p1), .val (.int p2), .val (.int (own_t0_6 p0 p1 p2)), .val (.int (p2.toInt8.toInt32)), .val (.ref b1), .unset, .unset] [(.int (p2.toInt8.toInt32)), (.int (6 : Int32)), (.ref b1)])) (fun t k => XS.iload X7.her hx rfl (hb hby at_57) rfl k) ?_
  refine own_bstore X7 hx hZ B7 (by decide) (by show 6 < 8; decide) (hb hby at_59) ga_b1 (Or.inr q1) ?_
  intro T8 h8 X8 K8 W8 B8
  rw [show ((p2.toInt8.toInt32)).toInt8.toInt32 = (p2.toInt8.toInt32) from own_b2 _] at B8
  replace B8 : own_B Z h8 b1 [(p2.toInt8.toInt32), (p2.toInt8.toInt32), (p2.toInt8.toInt32), (p2.toInt8.toInt32), (p2.toInt8.toInt32), (p2.toInt8.toInt32), (p2.toInt8.toInt32), (0 : Int32)] := B8
  have Zn8 : n0 ≤ h8.size := Nat.le_trans Zn7 K8.1
  refine own_st (f' := (mkF m 62 #[.val (.int p0), .val (.int p1), .val (.int p2), .val (.int (own_t0_6 p0 p1 p2)), .val (.int (p2.toInt8.toInt32)), .val (.ref b1), .unset, .unset] [(.ref b1)])) (fun t k => XS.aload X8.her hx rfl (hb hby at_60) rfl rfl k) ?_
  refine own_st (f' := (mkF m 64 #[.val (.int p0), .val (.int p1), .val (.int p2), .val (.int (own_t0_6 p0 p1 p2)), .val (.int (p2.toInt8.toInt32)), .val (.ref b1), .unset, .unset] [(.int (7 : Int32)), (.ref b1)])) (fun t k => XS.bipush X8.her hx rfl (hb hby at_62) k) ?_
  refine own_st (f' := (mkF m 66 #[.val (.int p0), .val (.int p1), .val (.int p2), .val (.int (own_t0_6 p0 p1 p2)), .val (.int (p2.toInt8.toInt32)), .val (.ref b1), .unset, .unset] [(.int (p2.toInt8.toInt32)), (.int (7 : Int32)), (.ref b1)])) (fun t k => XS.iload X8.her hx rfl (hb hby at_64) rfl k) ?_
  refine own_bstore X8 hx hZ B8 (by decide) (by show 7 < 8; decide) (hb hby at_66) ga_b1 (Or.inr q1) ?_
  intro T9 h9 X9 K9 W9 B9
  rw [show ((p2.toInt8.toInt32)).toInt8.toInt32 = (p2.toInt8.toInt32) from own_b2 _] at B9
  replace B9 : own_B Z h9 b1 [(p2.toInt8.toInt32), (p2.toInt8.toInt32), (p2.toInt8.toInt32), (p2.toInt8.toInt32), (p2.toInt8.toInt32), (p2.toInt8.toInt32), (p2.toInt8.toInt32), (p2.toInt8.toInt32)] := B9
  have Zn9 : n0 ≤ h9.size := Nat.le_trans Zn8 K9.1
  refine own_st (f' := (mkF m 68 #[.val (.int p0), .val (.int p1), .val (.int p2), .val (.int (own_t0_6 p0 p1 p2)), .val (.int (p2.toInt8.toInt32)), .val (.ref b1), .unset, .unset] [(.int p0)])) (fun t k => XS.iloadN X9.her hx rfl (hb hby at_67) rfl k) ?_
  refine own_st (f' := (mkF m 69 #[.val (.int p0), .val (.int p1), .val (.int p2), .val (.int (own_t0_6 p0 p1 p2)), .val (.int (p2.toInt8.toInt32)), .val (.ref b1), .unset, .unset] [(.long (p0.toInt64))])) (fun t k => XS.i2l X9.her hx rfl (hb hby at_68) rfl k) ?_
  refine own_ldcL X9 hx hZ hown (own_w2 hw) (hb hby at_69) ?_
  refine own_st (f' := (mkF m 73 #[.val (.int p0), .val (.int p1), .val (.int p2), .val (.int (own_t0_6 p0 p1 p2)), .val (.int (p2.toInt8.toInt32)), .val (.ref b1), .unset, .unset] [(.long ((p0.toInt64) &&& (4294967295 : Int64)))])) (fun t k => XS.land X9.her hx rfl (hb hby at_72) rfl k) ?_
  refine own_st (f' := (mkF m 75 #[.val (.int p0), .val (.int p1), .val (.int p2), .val (.int (own_t0_6 p0 p1 p2)), .val (.int (p2.toInt8.toInt32)), .val (.ref b1), .val (.long (own_t0_73 p0 p1 p2)), .second] [])) (fun t k => XS.lstore X9.her hx rfl (hb hby at_73) rfl (l' := #[.val (.int p0), .val (.int p1), .val (.int p2), .val (.int (own_t0_6 p0 p1 p2)), .val (.int (p2.toInt8.toInt32)), .val (.ref b1), .val (.long (own_t0_73 p0 p1 p2)), .second]) rfl k) ?_
  rcases own_off p0 p1 p2 with ho | ho | ho | ho | ho
  · rw [ho]
    refine own_st (f' := (mkF m 77 #[.val (.int p0), .val (.int p1), .val (.int p2), .val (.int (0 : Int32)), .val (.int (p2.toInt8.toInt32)), .val (.ref b1), .val (.long (own_t0_73 p0 p1 p2)), .second] [(.ref b1)])) (fun t k => XS.aload X9.her hx rfl (hb hby at_75) rfl rfl k) ?_
    refine own_st (f' := (mkF m 78 #[.val (.int p0), .val (.int p1), .val (.int p2), .val (.int (0 : Int32)), .val (.int (p2.toInt8.toInt32)), .val (.ref b1), .val (.long (own_t0_73 p0 p1 p2)), .second] [(.int (0 : Int32)), (.ref b1)])) (fun t k => XS.iloadN X9.her hx rfl (hb hby at_77) rfl k) ?_
    refine own_st (f' := (mkF m 80 #[.val (.int p0), .val (.int p1), .val (.int p2), .val (.int (0 : Int32)), .val (.int (p2.toInt8.toInt32)), .val (.ref b1), .val (.long (own_t0_73 p0 p1 p2)), .second] [(.long (own_t0_73 p0 p1 p2)), (.int (0 : Int32)), (.ref b1)])) (fun t k => XS.lload X9.her hx rfl (hb hby at_78) rfl k) ?_
    refine own_ldcL X9 hx hZ hown (own_w3 hw) (hb hby at_80) ?_
    refine own_st (f' := (mkF m 84 #[.val (.int p0), .val (.int p1), .val (.int p2), .val (.int (0 : Int32)), .val (.int (p2.toInt8.toInt32)), .val (.ref b1), .val (.long (own_t0_73 p0 p1 p2)), .second] [(.long ((own_t0_73 p0 p1 p2) / (16777216 : Int64))), (.int (0 : Int32)), (.ref b1)])) (fun t k => XS.ldiv X9.her hx rfl (hb hby at_83) rfl (by decide) k) ?_
    refine own_st (f' := (mkF m 85 #[.val (.int p0), .val (.int p1), .val (.int p2), .val (.int (0 : Int32)), .val (.int (p2.toInt8.toInt32)), .val (.ref b1), .val (.long (own_t0_73 p0 p1 p2)), .second] [(.int (((own_t0_73 p0 p1 p2) / (16777216 : Int64)).toInt32)), (.int (0 : Int32)), (.ref b1)])) (fun t k => XS.l2i X9.her hx rfl (hb hby at_84) rfl k) ?_
    refine own_st (f' := (mkF m 86 #[.val (.int p0), .val (.int p1), .val (.int p2), .val (.int (0 : Int32)), .val (.int (p2.toInt8.toInt32)), .val (.ref b1), .val (.long (own_t0_73 p0 p1 p2)), .second] [(.int ((((own_t0_73 p0 p1 p2) / (16777216 : Int64)).toInt32).toInt8.toInt32)), (.int (0 : Int32)), (.ref b1)])) (fun t k => XS.i2b X9.her hx rfl (hb hby at_85) rfl k) ?_
    refine own_bstore X9 hx hZ B9 (by decide) (by show 0 < 8; decide) (hb hby at_86) ga_b1 (Or.inr q1) ?_
    intro T10 h10 X10 K10 W10 B10
    rw [show (((((own_t0_73 p0 p1 p2) / (16777216 : Int64)).toInt32).toInt8.toInt32)).toInt8.toInt32 = ((((own_t0_73 p0 p1 p2) / (16777216 : Int64)).toInt32).toInt8.toInt32) from own_b2 _] at B10
    replace B10 : own_B Z h10 b1 [((((own_t0_73 p0 p1 p2) / (16777216 : Int64)).toInt32).toInt8.toInt32), (p2.toInt8.toInt32), (p2.toInt8.toInt32), (p2.toInt8.toInt32), (p2.toInt8.toInt32), (p2.toInt8.toInt32), (p2.toInt8.toInt32), (p2.toInt8.toInt32)] := B10
    have Zn10 : n0 ≤ h10.size := Nat.le_trans Zn9 K10.1
    refine own_st (f' := (mkF m 89 #[.val (.int p0), .val (.int p1), .val (.int p2), .val (.int (0 : Int32)), .val (.int (p2.toInt8.toInt32)), .val (.ref b1), .val (.long (own_t0_73 p0 p1 p2)), .second] [(.ref b1)])) (fun t k => XS.aload X10.her hx rfl (hb hby at_87) rfl rfl k) ?_
    refine own_st (f' := (mkF m 90 #[.val (.int p0), .val (.int p1), .val (.int p2), .val (.int (0 : Int32)), .val (.int (p2.toInt8.toInt32)), .val (.ref b1), .val (.long (own_t0_73 p0 p1 p2)), .second] [(.int (0 : Int32)), (.ref b1)])) (fun t k => XS.iloadN X10.her hx rfl (hb hby at_89) rfl k) ?_
    refine own_st (f' := (mkF m 91 #[.val (.int p0), .val (.int p1), .val (.int p2), .val (.int (0 : Int32)), .val (.int (p2.toInt8.toInt32)), .val (.ref b1), .val (.long (own_t0_73 p0 p1 p2)), .second] [(.int (1 : Int32)), (.int (0 : Int32)), (.ref b1)])) (fun t k => XS.iconst X10.her hx rfl (hb hby at_90) k) ?_
    refine own_st (f' := (mkF m 92 #[.val (.int p0), .val (.int p1), .val (.int p2), .val (.int (0 : Int32)), .val (.int (p2.toInt8.toInt32)), .val (.ref b1), .val (.long (own_t0_73 p0 p1 p2)), .second] [(.int (1 : Int32)), (.ref b1)])) (fun t k => XS.iadd X10.her hx rfl (hb hby at_91) rfl k) ?_
    refine own_st (f' := (mkF m 94 #[.val (.int p0), .val (.int p1), .val (.int p2), .val (.int (0 : Int32)), .val (.int (p2.toInt8.toInt32)), .val (.ref b1), .val (.long (own_t0_73 p0 p1 p2)), .second] [(.long (own_t0_73 p0 p1 p2)), (.int (1 : Int32)), (.ref b1)])) (fun t k => XS.lload X10.her hx rfl (hb hby at_92) rfl k) ?_
    refine own_ldcL X10 hx hZ hown (own_w4 hw) (hb hby at_94) ?_
    refine own_st (f' := (mkF m 98 #[.val (.int p0), .val (.int p1), .val (.int p2), .val (.int (0 : Int32)), .val (.int (p2.toInt8.toInt32)), .val (.ref b1), .val (.long (own_t0_73 p0 p1 p2)), .second] [(.long ((own_t0_73 p0 p1 p2) / (65536 : Int64))), (.int (1 : Int32)), (.ref b1)])) (fun t k => XS.ldiv X10.her hx rfl (hb hby at_97) rfl (by decide) k) ?_
    refine own_ldcL X10 hx hZ hown (own_w5 hw) (hb hby at_98) ?_
    refine own_lrem X10 hx (hb hby at_101) (by decide) ?_
    refine own_st (f' := (mkF m 103 #[.val (.int p0), .val (.int p1), .val (.int p2), .val (.int (0 : Int32)), .val (.int (p2.toInt8.toInt32)), .val (.ref b1), .val (.long (own_t0_73 p0 p1 p2)), .second] [(.int ((((own_t0_73 p0 p1 p2) / (65536 : Int64)) % (256 : Int64)).toInt32)), (.int (1 : Int32)), (.ref b1)])) (fun t k => XS.l2i X10.her hx rfl (hb hby at_102) rfl k) ?_
    refine own_st (f' := (mkF m 104 #[.val (.int p0), .val (.int p1), .val (.int p2), .val (.int (0 : Int32)), .val (.int (p2.toInt8.toInt32)), .val (.ref b1), .val (.long (own_t0_73 p0 p1 p2)), .second] [(.int (((((own_t0_73 p0 p1 p2) / (65536 : Int64)) % (256 : Int64)).toInt32).toInt8.toInt32)), (.int (1 : Int32)), (.ref b1)])) (fun t k => XS.i2b X10.her hx rfl (hb hby at_103) rfl k) ?_
    refine own_bstore X10 hx hZ B10 (by decide) (by show 1 < 8; decide) (hb hby at_104) ga_b1 (Or.inr q1) ?_
    intro T11 h11 X11 K11 W11 B11
    rw [show ((((((own_t0_73 p0 p1 p2) / (65536 : Int64)) % (256 : Int64)).toInt32).toInt8.toInt32)).toInt8.toInt32 = (((((own_t0_73 p0 p1 p2) / (65536 : Int64)) % (256 : Int64)).toInt32).toInt8.toInt32) from own_b2 _] at B11
    replace B11 : own_B Z h11 b1 [((((own_t0_73 p0 p1 p2) / (16777216 : Int64)).toInt32).toInt8.toInt32), (((((own_t0_73 p0 p1 p2) / (65536 : Int64)) % (256 : Int64)).toInt32).toInt8.toInt32), (p2.toInt8.toInt32), (p2.toInt8.toInt32), (p2.toInt8.toInt32), (p2.toInt8.toInt32), (p2.toInt8.toInt32), (p2.toInt8.toInt32)] := B11
    have Zn11 : n0 ≤ h11.size := Nat.le_trans Zn10 K11.1
    refine own_st (f' := (mkF m 107 #[.val (.int p0), .val (.int p1), .val (.int p2), .val (.int (0 : Int32)), .val (.int (p2.toInt8.toInt32)), .val (.ref b1), .val (.long (own_t0_73 p0 p1 p2)), .second] [(.ref b1)])) (fun t k => XS.aload X11.her hx rfl (hb hby at_105) rfl rfl k) ?_
    refine own_st (f' := (mkF m 108 #[.val (.int p0), .val (.int p1), .val (.int p2), .val (.int (0 : Int32)), .val (.int (p2.toInt8.toInt32)), .val (.ref b1), .val (.long (own_t0_73 p0 p1 p2)), .second] [(.int (0 : Int32)), (.ref b1)])) (fun t k => XS.iloadN X11.her hx rfl (hb hby at_107) rfl k) ?_
    refine own_st (f' := (mkF m 109 #[.val (.int p0), .val (.int p1), .val (.int p2), .val (.int (0 : Int32)), .val (.int (p2.toInt8.toInt32)), .val (.ref b1), .val (.long (own_t0_73 p0 p1 p2)), .second] [(.int (2 : Int32)), (.int (0 : Int32)), (.ref b1)])) (fun t k => XS.iconst X11.her hx rfl (hb hby at_108) k) ?_
    refine own_st (f' := (mkF m 110 #[.val (.int p0), .val (.int p1), .val (.int p2), .val (.int (0 : Int32)), .val (.int (p2.toInt8.toInt32)), .val (.ref b1), .val (.long (own_t0_73 p0 p1 p2)), .second] [(.int (2 : Int32)), (.ref b1)])) (fun t k => XS.iadd X11.her hx rfl (hb hby at_109) rfl k) ?_
    refine own_st (f' := (mkF m 112 #[.val (.int p0), .val (.int p1), .val (.int p2), .val (.int (0 : Int32)), .val (.int (p2.toInt8.toInt32)), .val (.ref b1), .val (.long (own_t0_73 p0 p1 p2)), .second] [(.long (own_t0_73 p0 p1 p2)), (.int (2 : Int32)), (.ref b1)])) (fun t k => XS.lload X11.her hx rfl (hb hby at_110) rfl k) ?_
    refine own_ldcL X11 hx hZ hown (own_w5 hw) (hb hby at_112) ?_
    refine own_st (f' := (mkF m 116 #[.val (.int p0), .val (.int p1), .val (.int p2), .val (.int (0 : Int32)), .val (.int (p2.toInt8.toInt32)), .val (.ref b1), .val (.long (own_t0_73 p0 p1 p2)), .second] [(.long ((own_t0_73 p0 p1 p2) / (256 : Int64))), (.int (2 : Int32)), (.ref b1)])) (fun t k => XS.ldiv X11.her hx rfl (hb hby at_115) rfl (by decide) k) ?_
    refine own_ldcL X11 hx hZ hown (own_w5 hw) (hb hby at_116) ?_
    refine own_lrem X11 hx (hb hby at_119) (by decide) ?_
    refine own_st (f' := (mkF m 121 #[.val (.int p0), .val (.int p1), .val (.int p2), .val (.int (0 : Int32)), .val (.int (p2.toInt8.toInt32)), .val (.ref b1), .val (.long (own_t0_73 p0 p1 p2)), .second] [(.int ((((own_t0_73 p0 p1 p2) / (256 : Int64)) % (256 : Int64)).toInt32)), (.int (2 : Int32)), (.ref b1)])) (fun t k => XS.l2i X11.her hx rfl (hb hby at_120) rfl k) ?_
    refine own_st (f' := (mkF m 122 #[.val (.int p0), .val (.int p1), .val (.int p2), .val (.int (0 : Int32)), .val (.int (p2.toInt8.toInt32)), .val (.ref b1), .val (.long (own_t0_73 p0 p1 p2)), .second] [(.int (((((own_t0_73 p0 p1 p2) / (256 : Int64)) % (256 : Int64)).toInt32).toInt8.toInt32)), (.int (2 : Int32)), (.ref b1)])) (fun t k => XS.i2b X11.her hx rfl (hb hby at_121) rfl k) ?_
    refine own_bstore X11 hx hZ B11 (by decide) (by show 2 < 8; decide) (hb hby at_122) ga_b1 (Or.inr q1) ?_
    intro T12 h12 X12 K12 W12 B12
    rw [show ((((((own_t0_73 p0 p1 p2) / (256 : Int64)) % (256 : Int64)).toInt32).toInt8.toInt32)).toInt8.toInt32 = (((((own_t0_73 p0 p1 p2) / (256 : Int64)) % (256 : Int64)).toInt32).toInt8.toInt32) from own_b2 _] at B12
    replace B12 : own_B Z h12 b1 [((((own_t0_73 p0 p1 p2) / (16777216 : Int64)).toInt32).toInt8.toInt32), (((((own_t0_73 p0 p1 p2) / (65536 : Int64)) % (256 : Int64)).toInt32).toInt8.toInt32), (((((own_t0_73 p0 p1 p2) / (256 : Int64)) % (256 : Int64)).toInt32).toInt8.toInt32), (p2.toInt8.toInt32), (p2.toInt8.toInt32), (p2.toInt8.toInt32), (p2.toInt8.toInt32), (p2.toInt8.toInt32)] := B12
    have Zn12 : n0 ≤ h12.size := Nat.le_trans Zn11 K12.1
    refine own_st (f' := (mkF m 125 #[.val (.int p0), .val (.int p1), .val (.int p2), .val (.int (0 : Int32)), .val (.int (p2.toInt8.toInt32)), .val (.ref b1), .val (.long (own_t0_73 p0 p1 p2)), .second] [(.ref b1)])) (fun t k => XS.aload X12.her hx rfl (hb hby at_123) rfl rfl k) ?_
    refine own_st (f' := (mkF m 126 #[.val (.int p0), .val (.int p1), .val (.int p2), .val (.int (0 : Int32)), .val (.int (p2.toInt8.toInt32)), .val (.ref b1), .val (.long (own_t0_73 p0 p1 p2)), .second] [(.int (0 : Int32)), (.ref b1)])) (fun t k => XS.iloadN X12.her hx rfl (hb hby at_125) rfl k) ?_
    refine own_st (f' := (mkF m 127 #[.val (.int p0), .val (.int p1), .val (.int p2), .val (.int (0 : Int32)), .val (.int (p2.toInt8.toInt32)), .val (.ref b1), .val (.long (own_t0_73 p0 p1 p2)), .second] [(.int (3 : Int32)), (.int (0 : Int32)), (.ref b1)])) (fun t k => XS.iconst X12.her hx rfl (hb hby at_126) k) ?_
    refine own_st (f' := (mkF m 128 #[.val (.int p0), .val (.int p1), .val (.int p2), .val (.int (0 : Int32)), .val (.int (p2.toInt8.toInt32)), .val (.ref b1), .val (.long (own_t0_73 p0 p1 p2)), .second] [(.int (3 : Int32)), (.ref b1)])) (fun t k => XS.iadd X12.her hx rfl (hb hby at_127) rfl k) ?_
    refine own_st (f' := (mkF m 130 #[.val (.int p0), .val (.int p1), .val (.int p2), .val (.int (0 : Int32)), .val (.int (p2.toInt8.toInt32)), .val (.ref b1), .val (.long (own_t0_73 p0 p1 p2)), .second] [(.long (own_t0_73 p0 p1 p2)), (.int (3 : Int32)), (.ref b1)])) (fun t k => XS.lload X12.her hx rfl (hb hby at_128) rfl k) ?_
    refine own_ldcL X12 hx hZ hown (own_w5 hw) (hb hby at_130) ?_
    refine own_lrem X12 hx (hb hby at_133) (by decide) ?_
    refine own_st (f' := (mkF m 135 #[.val (.int p0), .val (.int p1), .val (.int p2), .val (.int (0 : Int32)), .val (.int (p2.toInt8.toInt32)), .val (.ref b1), .val (.long (own_t0_73 p0 p1 p2)), .second] [(.int (((own_t0_73 p0 p1 p2) % (256 : Int64)).toInt32)), (.int (3 : Int32)), (.ref b1)])) (fun t k => XS.l2i X12.her hx rfl (hb hby at_134) rfl k) ?_
    refine own_st (f' := (mkF m 136 #[.val (.int p0), .val (.int p1), .val (.int p2), .val (.int (0 : Int32)), .val (.int (p2.toInt8.toInt32)), .val (.ref b1), .val (.long (own_t0_73 p0 p1 p2)), .second] [(.int ((((own_t0_73 p0 p1 p2) % (256 : Int64)).toInt32).toInt8.toInt32)), (.int (3 : Int32)), (.ref b1)])) (fun t k => XS.i2b X12.her hx rfl (hb hby at_135) rfl k) ?_
    refine own_bstore X12 hx hZ B12 (by decide) (by show 3 < 8; decide) (hb hby at_136) ga_b1 (Or.inr q1) ?_
    intro T13 h13 X13 K13 W13 B13
    rw [show (((((own_t0_73 p0 p1 p2) % (256 : Int64)).toInt32).toInt8.toInt32)).toInt8.toInt32 = ((((own_t0_73 p0 p1 p2) % (256 : Int64)).toInt32).toInt8.toInt32) from own_b2 _] at B13
    replace B13 : own_B Z h13 b1 [((((own_t0_73 p0 p1 p2) / (16777216 : Int64)).toInt32).toInt8.toInt32), (((((own_t0_73 p0 p1 p2) / (65536 : Int64)) % (256 : Int64)).toInt32).toInt8.toInt32), (((((own_t0_73 p0 p1 p2) / (256 : Int64)) % (256 : Int64)).toInt32).toInt8.toInt32), ((((own_t0_73 p0 p1 p2) % (256 : Int64)).toInt32).toInt8.toInt32), (p2.toInt8.toInt32), (p2.toInt8.toInt32), (p2.toInt8.toInt32), (p2.toInt8.toInt32)] := B13
    have Zn13 : n0 ≤ h13.size := Nat.le_trans Zn12 K13.1
    refine own_st (f' := (mkF m 139 #[.val (.int p0), .val (.int p1), .val (.int p2), .val (.int (0 : Int32)), .val (.int (p2.toInt8.toInt32)), .val (.ref b1), .val (.long (own_t0_73 p0 p1 p2)), .second] [(.ref b1)])) (fun t k => XS.aload X13.her hx rfl (hb hby at_137) rfl rfl k) ?_
    refine own_st (f' := (mkF m 140 #[.val (.int p0), .val (.int p1), .val (.int p2), .val (.int (0 : Int32)), .val (.int (p2.toInt8.toInt32)), .val (.ref b1), .val (.long (own_t0_73 p0 p1 p2)), .second] [(.int (0 : Int32)), (.ref b1)])) (fun t k => XS.iloadN X13.her hx rfl (hb hby at_139) rfl k) ?_
    refine own_callSP (y := (⟨"com/example/luoshu/luoshu/Words", "read", "([BI)I"⟩ : MethodName)) (W := 0) [(.ref b1), (.int (0 : Int32))] X13 hx hZ hown (own_w6 hw) (own_w7 hw) (own_w8 hw) (own_w9 hw) (by decide) (own_c1 l Z a0 hw h13 n0 Zn13 b1 (0 : Int32) ((((own_t0_73 p0 p1 p2) / (16777216 : Int64)).toInt32).toInt8.toInt32) (((((own_t0_73 p0 p1 p2) / (65536 : Int64)) % (256 : Int64)).toInt32).toInt8.toInt32) (((((own_t0_73 p0 p1 p2) / (256 : Int64)) % (256 : Int64)).toInt32).toInt8.toInt32) ((((own_t0_73 p0 p1 p2) % (256 : Int64)).toInt32).toInt8.toInt32) _ B13 (by decide) rfl (by decide) rfl (by decide) rfl (by decide) rfl) (by decide) (by decide) (by decide) (by decide) (by rw [hml]; rfl) own_pd0 rfl rfl (Nat.le_of_eq rfl) (hb hby at_140) ?_
    intro T14 X14
    show own_G p e below _ T14 (mkF m 143 #[.val (.int p0), .val (.int p1), .val (.int p2), .val (.int (0 : Int32)), .val (.int (p2.toInt8.toInt32)), .val (.ref b1), .val (.long (own_t0_73 p0 p1 p2)), .second] [(.int (own_F1 (0 : Int32) ((((own_t0_73 p0 p1 p2) / (16777216 : Int64)).toInt32).toInt8.toInt32) (((((own_t0_73 p0 p1 p2) / (65536 : Int64)) % (256 : Int64)).toInt32).toInt8.toInt32) (((((own_t0_73 p0 p1 p2) / (256 : Int64)) % (256 : Int64)).toInt32).toInt8.toInt32) ((((own_t0_73 p0 p1 p2) % (256 : Int64)).toInt32).toInt8.toInt32)))])
    refine own_st (f' := (mkF m 144 #[.val (.int p0), .val (.int p1), .val (.int p2), .val (.int (0 : Int32)), .val (.int (p2.toInt8.toInt32)), .val (.ref b1), .val (.long (own_t0_73 p0 p1 p2)), .second] [(.int p0), (.int (own_F1 (0 : Int32) ((((own_t0_73 p0 p1 p2) / (16777216 : Int64)).toInt32).toInt8.toInt32) (((((own_t0_73 p0 p1 p2) / (65536 : Int64)) % (256 : Int64)).toInt32).toInt8.toInt32) (((((own_t0_73 p0 p1 p2) / (256 : Int64)) % (256 : Int64)).toInt32).toInt8.toInt32) ((((own_t0_73 p0 p1 p2) % (256 : Int64)).toInt32).toInt8.toInt32)))])) (fun t k => XS.iloadN X14.her hx rfl (hb hby at_143) rfl k) ?_
    refine own_st (f' := (mkF m 147 #[.val (.int p0), .val (.int p1), .val (.int p2), .val (.int (0 : Int32)), .val (.int (p2.toInt8.toInt32)), .val (.ref b1), .val (.long (own_t0_73 p0 p1 p2)), .second] [])) (fun t k => XS.icmpNo X14.her hx rfl (hb hby at_144) rfl (teq (own_read p0 p1 p2 _ : (own_F1 (0 : Int32) ((((own_t0_73 p0 p1 p2) / (16777216 : Int64)).toInt32).toInt8.toInt32) (((((own_t0_73 p0 p1 p2) / (65536 : Int64)) % (256 : Int64)).toInt32).toInt8.toInt32) (((((own_t0_73 p0 p1 p2) / (256 : Int64)) % (256 : Int64)).toInt32).toInt8.toInt32) ((((own_t0_73 p0 p1 p2) % (256 : Int64)).toInt32).toInt8.toInt32)) = p0)).2 k) ?_
    refine own_st (f' := (mkF m 148 #[.val (.int p0), .val (.int p1), .val (.int p2), .val (.int (0 : Int32)), .val (.int (p2.toInt8.toInt32)), .val (.ref b1), .val (.long (own_t0_73 p0 p1 p2)), .second] [(.int (1 : Int32))])) (fun t k => XS.iconst X14.her hx rfl (hb hby at_147) k) ?_
    refine own_st (f' := (mkF m 152 #[.val (.int p0), .val (.int p1), .val (.int p2), .val (.int (0 : Int32)), .val (.int (p2.toInt8.toInt32)), .val (.ref b1), .val (.long (own_t0_73 p0 p1 p2)), .second] [(.int (1 : Int32))])) (fun t k => XS.goto X14.her hx rfl (pc0 := 148) (pc' := 152) rfl (hb hby at_148) (by decide) (by decide) k) ?_
    refine own_retN (t := .boolean) X14 hx hret hlk (by simp) (hb hby at_152) (by first | decide | omega) (by first | decide | omega) ?_
    exact congrArg (fun q => some (Value.int q)) (by decide)
  · rw [ho]
    refine own_st (f' := (mkF m 77 #[.val (.int p0), .val (.int p1), .val (.int p2), .val (.int (1 : Int32)), .val (.int (p2.toInt8.toInt32)), .val (.ref b1), .val (.long (own_t0_73 p0 p1 p2)), .second] [(.ref b1)])) (fun t k => XS.aload X9.her hx rfl (hb hby at_75) rfl rfl k) ?_
    refine own_st (f' := (mkF m 78 #[.val (.int p0), .val (.int p1), .val (.int p2), .val (.int (1 : Int32)), .val (.int (p2.toInt8.toInt32)), .val (.ref b1), .val (.long (own_t0_73 p0 p1 p2)), .second] [(.int (1 : Int32)), (.ref b1)])) (fun t k => XS.iloadN X9.her hx rfl (hb hby at_77) rfl k) ?_
    refine own_st (f' := (mkF m 80 #[.val (.int p0), .val (.int p1), .val (.int p2), .val (.int (1 : Int32)), .val (.int (p2.toInt8.toInt32)), .val (.ref b1), .val (.long (own_t0_73 p0 p1 p2)), .second] [(.long (own_t0_73 p0 p1 p2)), (.int (1 : Int32)), (.ref b1)])) (fun t k => XS.lload X9.her hx rfl (hb hby at_78) rfl k) ?_
    refine own_ldcL X9 hx hZ hown (own_w3 hw) (hb hby at_80) ?_
    refine own_st (f' := (mkF m 84 #[.val (.int p0), .val (.int p1), .val (.int p2), .val (.int (1 : Int32)), .val (.int (p2.toInt8.toInt32)), .val (.ref b1), .val (.long (own_t0_73 p0 p1 p2)), .second] [(.long ((own_t0_73 p0 p1 p2) / (16777216 : Int64))), (.int (1 : Int32)), (.ref b1)])) (fun t k => XS.ldiv X9.her hx rfl (hb hby at_83) rfl (by decide) k) ?_
    refine own_st (f' := (mkF m 85 #[.val (.int p0), .val (.int p1), .val (.int p2), .val (.int (1 : Int32)), .val (.int (p2.toInt8.toInt32)), .val (.ref b1), .val (.long (own_t0_73 p0 p1 p2)), .second] [(.int (((own_t0_73 p0 p1 p2) / (16777216 : Int64)).toInt32)), (.int (1 : Int32)), (.ref b1)])) (fun t k => XS.l2i X9.her hx rfl (hb hby at_84) rfl k) ?_
    refine own_st (f' := (mkF m 86 #[.val (.int p0), .val (.int p1), .val (.int p2), .val (.int (1 : Int32)), .val (.int (p2.toInt8.toInt32)), .val (.ref b1), .val (.long (own_t0_73 p0 p1 p2)), .second] [(.int ((((own_t0_73 p0 p1 p2) / (16777216 : Int64)).toInt32).toInt8.toInt32)), (.int (1 : Int32)), (.ref b1)])) (fun t k => XS.i2b X9.her hx rfl (hb hby at_85) rfl k) ?_
    refine own_bstore X9 hx hZ B9 (by decide) (by show 1 < 8; decide) (hb hby at_86) ga_b1 (Or.inr q1) ?_
    intro T15 h15 X15 K15 W15 B15
    rw [show (((((own_t0_73 p0 p1 p2) / (16777216 : Int64)).toInt32).toInt8.toInt32)).toInt8.toInt32 = ((((own_t0_73 p0 p1 p2) / (16777216 : Int64)).toInt32).toInt8.toInt32) from own_b2 _] at B15
    replace B15 : own_B Z h15 b1 [(p2.toInt8.toInt32), ((((own_t0_73 p0 p1 p2) / (16777216 : Int64)).toInt32).toInt8.toInt32), (p2.toInt8.toInt32), (p2.toInt8.toInt32), (p2.toInt8.toInt32), (p2.toInt8.toInt32), (p2.toInt8.toInt32), (p2.toInt8.toInt32)] := B15
    have Zn15 : n0 ≤ h15.size := Nat.le_trans Zn9 K15.1
    refine own_st (f' := (mkF m 89 #[.val (.int p0), .val (.int p1), .val (.int p2), .val (.int (1 : Int32)), .val (.int (p2.toInt8.toInt32)), .val (.ref b1), .val (.long (own_t0_73 p0 p1 p2)), .second] [(.ref b1)])) (fun t k => XS.aload X15.her hx rfl (hb hby at_87) rfl rfl k) ?_
    refine own_st (f' := (mkF m 90 #[.val (.int p0), .val (.int p1), .val (.int p2), .val (.int (1 : Int32)), .val (.int (p2.toInt8.toInt32)), .val (.ref b1), .val (.long (own_t0_73 p0 p1 p2)), .second] [(.int (1 : Int32)), (.ref b1)])) (fun t k => XS.iloadN X15.her hx rfl (hb hby at_89) rfl k) ?_
    refine own_st (f' := (mkF m 91 #[.val (.int p0), .val (.int p1), .val (.int p2), .val (.int (1 : Int32)), .val (.int (p2.toInt8.toInt32)), .val (.ref b1), .val (.long (own_t0_73 p0 p1 p2)), .second] [(.int (1 : Int32)), (.int (1 : Int32)), (.ref b1)])) (fun t k => XS.iconst X15.her hx rfl (hb hby at_90) k) ?_
    refine own_st (f' := (mkF m 92 #[.val (.int p0), .val (.int p1), .val (.int p2), .val (.int (1 : Int32)), .val (.int (p2.toInt8.toInt32)), .val (.ref b1), .val (.long (own_t0_73 p0 p1 p2)), .second] [(.int (2 : Int32)), (.ref b1)])) (fun t k => XS.iadd X15.her hx rfl (hb hby at_91) rfl k) ?_
    refine own_st (f' := (mkF m 94 #[.val (.int p0), .val (.int p1), .val (.int p2), .val (.int (1 : Int32)), .val (.int (p2.toInt8.toInt32)), .val (.ref b1), .val (.long (own_t0_73 p0 p1 p2)), .second] [(.long (own_t0_73 p0 p1 p2)), (.int (2 : Int32)), (.ref b1)])) (fun t k => XS.lload X15.her hx rfl (hb hby at_92) rfl k) ?_
    refine own_ldcL X15 hx hZ hown (own_w4 hw) (hb hby at_94) ?_
    refine own_st (f' := (mkF m 98 #[.val (.int p0), .val (.int p1), .val (.int p2), .val (.int (1 : Int32)), .val (.int (p2.toInt8.toInt32)), .val (.ref b1), .val (.long (own_t0_73 p0 p1 p2)), .second] [(.long ((own_t0_73 p0 p1 p2) / (65536 : Int64))), (.int (2 : Int32)), (.ref b1)])) (fun t k => XS.ldiv X15.her hx rfl (hb hby at_97) rfl (by decide) k) ?_
    refine own_ldcL X15 hx hZ hown (own_w5 hw) (hb hby at_98) ?_
    refine own_lrem X15 hx (hb hby at_101) (by decide) ?_
    refine own_st (f' := (mkF m 103 #[.val (.int p0), .val (.int p1), .val (.int p2), .val (.int (1 : Int32)), .val (.int (p2.toInt8.toInt32)), .val (.ref b1), .val (.long (own_t0_73 p0 p1 p2)), .second] [(.int ((((own_t0_73 p0 p1 p2) / (65536 : Int64)) % (256 : Int64)).toInt32)), (.int (2 : Int32)), (.ref b1)])) (fun t k => XS.l2i X15.her hx rfl (hb hby at_102) rfl k) ?_
    refine own_st (f' := (mkF m 104 #[.val (.int p0), .val (.int p1), .val (.int p2), .val (.int (1 : Int32)), .val (.int (p2.toInt8.toInt32)), .val (.ref b1), .val (.long (own_t0_73 p0 p1 p2)), .second] [(.int (((((own_t0_73 p0 p1 p2) / (65536 : Int64)) % (256 : Int64)).toInt32).toInt8.toInt32)), (.int (2 : Int32)), (.ref b1)])) (fun t k => XS.i2b X15.her hx rfl (hb hby at_103) rfl k) ?_
    refine own_bstore X15 hx hZ B15 (by decide) (by show 2 < 8; decide) (hb hby at_104) ga_b1 (Or.inr q1) ?_
    intro T16 h16 X16 K16 W16 B16
    rw [show ((((((own_t0_73 p0 p1 p2) / (65536 : Int64)) % (256 : Int64)).toInt32).toInt8.toInt32)).toInt8.toInt32 = (((((own_t0_73 p0 p1 p2) / (65536 : Int64)) % (256 : Int64)).toInt32).toInt8.toInt32) from own_b2 _] at B16
    replace B16 : own_B Z h16 b1 [(p2.toInt8.toInt32), ((((own_t0_73 p0 p1 p2) / (16777216 : Int64)).toInt32).toInt8.toInt32), (((((own_t0_73 p0 p1 p2) / (65536 : Int64)) % (256 : Int64)).toInt32).toInt8.toInt32), (p2.toInt8.toInt32), (p2.toInt8.toInt32), (p2.toInt8.toInt32), (p2.toInt8.toInt32), (p2.toInt8.toInt32)] := B16
    have Zn16 : n0 ≤ h16.size := Nat.le_trans Zn15 K16.1
    refine own_st (f' := (mkF m 107 #[.val (.int p0), .val (.int p1), .val (.int p2), .val (.int (1 : Int32)), .val (.int (p2.toInt8.toInt32)), .val (.ref b1), .val (.long (own_t0_73 p0 p1 p2)), .second] [(.ref b1)])) (fun t k => XS.aload X16.her hx rfl (hb hby at_105) rfl rfl k) ?_
    refine own_st (f' := (mkF m 108 #[.val (.int p0), .val (.int p1), .val (.int p2), .val (.int (1 : Int32)), .val (.int (p2.toInt8.toInt32)), .val (.ref b1), .val (.long (own_t0_73 p0 p1 p2)), .second] [(.int (1 : Int32)), (.ref b1)])) (fun t k => XS.iloadN X16.her hx rfl (hb hby at_107) rfl k) ?_
    refine own_st (f' := (mkF m 109 #[.val (.int p0), .val (.int p1), .val (.int p2), .val (.int (1 : Int32)), .val (.int (p2.toInt8.toInt32)), .val (.ref b1), .val (.long (own_t0_73 p0 p1 p2)), .second] [(.int (2 : Int32)), (.int (1 : Int32)), (.ref b1)])) (fun t k => XS.iconst X16.her hx rfl (hb hby at_108) k) ?_
    refine own_st (f' := (mkF m 110 #[.val (.int p0), .val (.int p1), .val (.int p2), .val (.int (1 : Int32)), .val (.int (p2.toInt8.toInt32)), .val (.ref b1), .val (.long (own_t0_73 p0 p1 p2)), .second] [(.int (3 : Int32)), (.ref b1)])) (fun t k => XS.iadd X16.her hx rfl (hb hby at_109) rfl k) ?_
    refine own_st (f' := (mkF m 112 #[.val (.int p0), .val (.int p1), .val (.int p2), .val (.int (1 : Int32)), .val (.int (p2.toInt8.toInt32)), .val (.ref b1), .val (.long (own_t0_73 p0 p1 p2)), .second] [(.long (own_t0_73 p0 p1 p2)), (.int (3 : Int32)), (.ref b1)])) (fun t k => XS.lload X16.her hx rfl (hb hby at_110) rfl k) ?_
    refine own_ldcL X16 hx hZ hown (own_w5 hw) (hb hby at_112) ?_
    refine own_st (f' := (mkF m 116 #[.val (.int p0), .val (.int p1), .val (.int p2), .val (.int (1 : Int32)), .val (.int (p2.toInt8.toInt32)), .val (.ref b1), .val (.long (own_t0_73 p0 p1 p2)), .second] [(.long ((own_t0_73 p0 p1 p2) / (256 : Int64))), (.int (3 : Int32)), (.ref b1)])) (fun t k => XS.ldiv X16.her hx rfl (hb hby at_115) rfl (by decide) k) ?_
    refine own_ldcL X16 hx hZ hown (own_w5 hw) (hb hby at_116) ?_
    refine own_lrem X16 hx (hb hby at_119) (by decide) ?_
    refine own_st (f' := (mkF m 121 #[.val (.int p0), .val (.int p1), .val (.int p2), .val (.int (1 : Int32)), .val (.int (p2.toInt8.toInt32)), .val (.ref b1), .val (.long (own_t0_73 p0 p1 p2)), .second] [(.int ((((own_t0_73 p0 p1 p2) / (256 : Int64)) % (256 : Int64)).toInt32)), (.int (3 : Int32)), (.ref b1)])) (fun t k => XS.l2i X16.her hx rfl (hb hby at_120) rfl k) ?_
    refine own_st (f' := (mkF m 122 #[.val (.int p0), .val (.int p1), .val (.int p2), .val (.int (1 : Int32)), .val (.int (p2.toInt8.toInt32)), .val (.ref b1), .val (.long (own_t0_73 p0 p1 p2)), .second] [(.int (((((own_t0_73 p0 p1 p2) / (256 : Int64)) % (256 : Int64)).toInt32).toInt8.toInt32)), (.int (3 : Int32)), (.ref b1)])) (fun t k => XS.i2b X16.her hx rfl (hb hby at_121) rfl k) ?_
    refine own_bstore X16 hx hZ B16 (by decide) (by show 3 < 8; decide) (hb hby at_122) ga_b1 (Or.inr q1) ?_
    intro T17 h17 X17 K17 W17 B17
    rw [show ((((((own_t0_73 p0 p1 p2) / (256 : Int64)) % (256 : Int64)).toInt32).toInt8.toInt32)).toInt8.toInt32 = (((((own_t0_73 p0 p1 p2) / (256 : Int64)) % (256 : Int64)).toInt32).toInt8.toInt32) from own_b2 _] at B17
    replace B17 : own_B Z h17 b1 [(p2.toInt8.toInt32), ((((own_t0_73 p0 p1 p2) / (16777216 : Int64)).toInt32).toInt8.toInt32), (((((own_t0_73 p0 p1 p2) / (65536 : Int64)) % (256 : Int64)).toInt32).toInt8.toInt32), (((((own_t0_73 p0 p1 p2) / (256 : Int64)) % (256 : Int64)).toInt32).toInt8.toInt32), (p2.toInt8.toInt32), (p2.toInt8.toInt32), (p2.toInt8.toInt32), (p2.toInt8.toInt32)] := B17
    have Zn17 : n0 ≤ h17.size := Nat.le_trans Zn16 K17.1
    refine own_st (f' := (mkF m 125 #[.val (.int p0), .val (.int p1), .val (.int p2), .val (.int (1 : Int32)), .val (.int (p2.toInt8.toInt32)), .val (.ref b1), .val (.long (own_t0_73 p0 p1 p2)), .second] [(.ref b1)])) (fun t k => XS.aload X17.her hx rfl (hb hby at_123) rfl rfl k) ?_
    refine own_st (f' := (mkF m 126 #[.val (.int p0), .val (.int p1), .val (.int p2), .val (.int (1 : Int32)), .val (.int (p2.toInt8.toInt32)), .val (.ref b1), .val (.long (own_t0_73 p0 p1 p2)), .second] [(.int (1 : Int32)), (.ref b1)])) (fun t k => XS.iloadN X17.her hx rfl (hb hby at_125) rfl k) ?_
    refine own_st (f' := (mkF m 127 #[.val (.int p0), .val (.int p1), .val (.int p2), .val (.int (1 : Int32)), .val (.int (p2.toInt8.toInt32)), .val (.ref b1), .val (.long (own_t0_73 p0 p1 p2)), .second] [(.int (3 : Int32)), (.int (1 : Int32)), (.ref b1)])) (fun t k => XS.iconst X17.her hx rfl (hb hby at_126) k) ?_
    refine own_st (f' := (mkF m 128 #[.val (.int p0), .val (.int p1), .val (.int p2), .val (.int (1 : Int32)), .val (.int (p2.toInt8.toInt32)), .val (.ref b1), .val (.long (own_t0_73 p0 p1 p2)), .second] [(.int (4 : Int32)), (.ref b1)])) (fun t k => XS.iadd X17.her hx rfl (hb hby at_127) rfl k) ?_
    refine own_st (f' := (mkF m 130 #[.val (.int p0), .val (.int p1), .val (.int p2), .val (.int (1 : Int32)), .val (.int (p2.toInt8.toInt32)), .val (.ref b1), .val (.long (own_t0_73 p0 p1 p2)), .second] [(.long (own_t0_73 p0 p1 p2)), (.int (4 : Int32)), (.ref b1)])) (fun t k => XS.lload X17.her hx rfl (hb hby at_128) rfl k) ?_
    refine own_ldcL X17 hx hZ hown (own_w5 hw) (hb hby at_130) ?_
    refine own_lrem X17 hx (hb hby at_133) (by decide) ?_
    refine own_st (f' := (mkF m 135 #[.val (.int p0), .val (.int p1), .val (.int p2), .val (.int (1 : Int32)), .val (.int (p2.toInt8.toInt32)), .val (.ref b1), .val (.long (own_t0_73 p0 p1 p2)), .second] [(.int (((own_t0_73 p0 p1 p2) % (256 : Int64)).toInt32)), (.int (4 : Int32)), (.ref b1)])) (fun t k => XS.l2i X17.her hx rfl (hb hby at_134) rfl k) ?_
    refine own_st (f' := (mkF m 136 #[.val (.int p0), .val (.int p1), .val (.int p2), .val (.int (1 : Int32)), .val (.int (p2.toInt8.toInt32)), .val (.ref b1), .val (.long (own_t0_73 p0 p1 p2)), .second] [(.int ((((own_t0_73 p0 p1 p2) % (256 : Int64)).toInt32).toInt8.toInt32)), (.int (4 : Int32)), (.ref b1)])) (fun t k => XS.i2b X17.her hx rfl (hb hby at_135) rfl k) ?_
    refine own_bstore X17 hx hZ B17 (by decide) (by show 4 < 8; decide) (hb hby at_136) ga_b1 (Or.inr q1) ?_
    intro T18 h18 X18 K18 W18 B18
    rw [show (((((own_t0_73 p0 p1 p2) % (256 : Int64)).toInt32).toInt8.toInt32)).toInt8.toInt32 = ((((own_t0_73 p0 p1 p2) % (256 : Int64)).toInt32).toInt8.toInt32) from own_b2 _] at B18
    replace B18 : own_B Z h18 b1 [(p2.toInt8.toInt32), ((((own_t0_73 p0 p1 p2) / (16777216 : Int64)).toInt32).toInt8.toInt32), (((((own_t0_73 p0 p1 p2) / (65536 : Int64)) % (256 : Int64)).toInt32).toInt8.toInt32), (((((own_t0_73 p0 p1 p2) / (256 : Int64)) % (256 : Int64)).toInt32).toInt8.toInt32), ((((own_t0_73 p0 p1 p2) % (256 : Int64)).toInt32).toInt8.toInt32), (p2.toInt8.toInt32), (p2.toInt8.toInt32), (p2.toInt8.toInt32)] := B18
    have Zn18 : n0 ≤ h18.size := Nat.le_trans Zn17 K18.1
    refine own_st (f' := (mkF m 139 #[.val (.int p0), .val (.int p1), .val (.int p2), .val (.int (1 : Int32)), .val (.int (p2.toInt8.toInt32)), .val (.ref b1), .val (.long (own_t0_73 p0 p1 p2)), .second] [(.ref b1)])) (fun t k => XS.aload X18.her hx rfl (hb hby at_137) rfl rfl k) ?_
    refine own_st (f' := (mkF m 140 #[.val (.int p0), .val (.int p1), .val (.int p2), .val (.int (1 : Int32)), .val (.int (p2.toInt8.toInt32)), .val (.ref b1), .val (.long (own_t0_73 p0 p1 p2)), .second] [(.int (1 : Int32)), (.ref b1)])) (fun t k => XS.iloadN X18.her hx rfl (hb hby at_139) rfl k) ?_
    refine own_callSP (y := (⟨"com/example/luoshu/luoshu/Words", "read", "([BI)I"⟩ : MethodName)) (W := 0) [(.ref b1), (.int (1 : Int32))] X18 hx hZ hown (own_w6 hw) (own_w7 hw) (own_w8 hw) (own_w9 hw) (by decide) (own_c1 l Z a0 hw h18 n0 Zn18 b1 (1 : Int32) ((((own_t0_73 p0 p1 p2) / (16777216 : Int64)).toInt32).toInt8.toInt32) (((((own_t0_73 p0 p1 p2) / (65536 : Int64)) % (256 : Int64)).toInt32).toInt8.toInt32) (((((own_t0_73 p0 p1 p2) / (256 : Int64)) % (256 : Int64)).toInt32).toInt8.toInt32) ((((own_t0_73 p0 p1 p2) % (256 : Int64)).toInt32).toInt8.toInt32) _ B18 (by decide) rfl (by decide) rfl (by decide) rfl (by decide) rfl) (by decide) (by decide) (by decide) (by decide) (by rw [hml]; rfl) own_pd0 rfl rfl (Nat.le_of_eq rfl) (hb hby at_140) ?_
    intro T19 X19
    show own_G p e below _ T19 (mkF m 143 #[.val (.int p0), .val (.int p1), .val (.int p2), .val (.int (1 : Int32)), .val (.int (p2.toInt8.toInt32)), .val (.ref b1), .val (.long (own_t0_73 p0 p1 p2)), .second] [(.int (own_F1 (1 : Int32) ((((own_t0_73 p0 p1 p2) / (16777216 : Int64)).toInt32).toInt8.toInt32) (((((own_t0_73 p0 p1 p2) / (65536 : Int64)) % (256 : Int64)).toInt32).toInt8.toInt32) (((((own_t0_73 p0 p1 p2) / (256 : Int64)) % (256 : Int64)).toInt32).toInt8.toInt32) ((((own_t0_73 p0 p1 p2) % (256 : Int64)).toInt32).toInt8.toInt32)))])
    refine own_st (f' := (mkF m 144 #[.val (.int p0), .val (.int p1), .val (.int p2), .val (.int (1 : Int32)), .val (.int (p2.toInt8.toInt32)), .val (.ref b1), .val (.long (own_t0_73 p0 p1 p2)), .second] [(.int p0), (.int (own_F1 (1 : Int32) ((((own_t0_73 p0 p1 p2) / (16777216 : Int64)).toInt32).toInt8.toInt32) (((((own_t0_73 p0 p1 p2) / (65536 : Int64)) % (256 : Int64)).toInt32).toInt8.toInt32) (((((own_t0_73 p0 p1 p2) / (256 : Int64)) % (256 : Int64)).toInt32).toInt8.toInt32) ((((own_t0_73 p0 p1 p2) % (256 : Int64)).toInt32).toInt8.toInt32)))])) (fun t k => XS.iloadN X19.her hx rfl (hb hby at_143) rfl k) ?_
    refine own_st (f' := (mkF m 147 #[.val (.int p0), .val (.int p1), .val (.int p2), .val (.int (1 : Int32)), .val (.int (p2.toInt8.toInt32)), .val (.ref b1), .val (.long (own_t0_73 p0 p1 p2)), .second] [])) (fun t k => XS.icmpNo X19.her hx rfl (hb hby at_144) rfl (teq (own_read p0 p1 p2 _ : (own_F1 (1 : Int32) ((((own_t0_73 p0 p1 p2) / (16777216 : Int64)).toInt32).toInt8.toInt32) (((((own_t0_73 p0 p1 p2) / (65536 : Int64)) % (256 : Int64)).toInt32).toInt8.toInt32) (((((own_t0_73 p0 p1 p2) / (256 : Int64)) % (256 : Int64)).toInt32).toInt8.toInt32) ((((own_t0_73 p0 p1 p2) % (256 : Int64)).toInt32).toInt8.toInt32)) = p0)).2 k) ?_
    refine own_st (f' := (mkF m 148 #[.val (.int p0), .val (.int p1), .val (.int p2), .val (.int (1 : Int32)), .val (.int (p2.toInt8.toInt32)), .val (.ref b1), .val (.long (own_t0_73 p0 p1 p2)), .second] [(.int (1 : Int32))])) (fun t k => XS.iconst X19.her hx rfl (hb hby at_147) k) ?_
    refine own_st (f' := (mkF m 152 #[.val (.int p0), .val (.int p1), .val (.int p2), .val (.int (1 : Int32)), .val (.int (p2.toInt8.toInt32)), .val (.ref b1), .val (.long (own_t0_73 p0 p1 p2)), .second] [(.int (1 : Int32))])) (fun t k => XS.goto X19.her hx rfl (pc0 := 148) (pc' := 152) rfl (hb hby at_148) (by decide) (by decide) k) ?_
    refine own_retN (t := .boolean) X19 hx hret hlk (by simp) (hb hby at_152) (by first | decide | omega) (by first | decide | omega) ?_
    exact congrArg (fun q => some (Value.int q)) (by decide)
  · rw [ho]
    refine own_st (f' := (mkF m 77 #[.val (.int p0), .val (.int p1), .val (.int p2), .val (.int (2 : Int32)), .val (.int (p2.toInt8.toInt32)), .val (.ref b1), .val (.long (own_t0_73 p0 p1 p2)), .second] [(.ref b1)])) (fun t k => XS.aload X9.her hx rfl (hb hby at_75) rfl rfl k) ?_
    refine own_st (f' := (mkF m 78 #[.val (.int p0), .val (.int p1), .val (.int p2), .val (.int (2 : Int32)), .val (.int (p2.toInt8.toInt32)), .val (.ref b1), .val (.long (own_t0_73 p0 p1 p2)), .second] [(.int (2 : Int32)), (.ref b1)])) (fun t k => XS.iloadN X9.her hx rfl (hb hby at_77) rfl k) ?_
    refine own_st (f' := (mkF m 80 #[.val (.int p0), .val (.int p1), .val (.int p2), .val (.int (2 : Int32)), .val (.int (p2.toInt8.toInt32)), .val (.ref b1), .val (.long (own_t0_73 p0 p1 p2)), .second] [(.long (own_t0_73 p0 p1 p2)), (.int (2 : Int32)), (.ref b1)])) (fun t k => XS.lload X9.her hx rfl (hb hby at_78) rfl k) ?_
    refine own_ldcL X9 hx hZ hown (own_w3 hw) (hb hby at_80) ?_
    refine own_st (f' := (mkF m 84 #[.val (.int p0), .val (.int p1), .val (.int p2), .val (.int (2 : Int32)), .val (.int (p2.toInt8.toInt32)), .val (.ref b1), .val (.long (own_t0_73 p0 p1 p2)), .second] [(.long ((own_t0_73 p0 p1 p2) / (16777216 : Int64))), (.int (2 : Int32)), (.ref b1)])) (fun t k => XS.ldiv X9.her hx rfl (hb hby at_83) rfl (by decide) k) ?_
    refine own_st (f' := (mkF m 85 #[.val (.int p0), .val (.int p1), .val (.int p2), .val (.int (2 : Int32)), .val (.int (p2.toInt8.toInt32)), .val (.ref b1), .val (.long (own_t0_73 p0 p1 p2)), .second] [(.int (((own_t0_73 p0 p1 p2) / (16777216 : Int64)).toInt32)), (.int (2 : Int32)), (.ref b1)])) (fun t k => XS.l2i X9.her hx rfl (hb hby at_84) rfl k) ?_
    refine own_st (f' := (mkF m 86 #[.val (.int p0), .val (.int p1), .val (.int p2), .val (.int (2 : Int32)), .val (.int (p2.toInt8.toInt32)), .val (.ref b1), .val (.long (own_t0_73 p0 p1 p2)), .second] [(.int ((((own_t0_73 p0 p1 p2) / (16777216 : Int64)).toInt32).toInt8.toInt32)), (.int (2 : Int32)), (.ref b1)])) (fun t k => XS.i2b X9.her hx rfl (hb hby at_85) rfl k) ?_
    refine own_bstore X9 hx hZ B9 (by decide) (by show 2 < 8; decide) (hb hby at_86) ga_b1 (Or.inr q1) ?_
    intro T20 h20 X20 K20 W20 B20
    rw [show (((((own_t0_73 p0 p1 p2) / (16777216 : Int64)).toInt32).toInt8.toInt32)).toInt8.toInt32 = ((((own_t0_73 p0 p1 p2) / (16777216 : Int64)).toInt32).toInt8.toInt32) from own_b2 _] at B20
    replace B20 : own_B Z h20 b1 [(p2.toInt8.toInt32), (p2.toInt8.toInt32), ((((own_t0_73 p0 p1 p2) / (16777216 : Int64)).toInt32).toInt8.toInt32), (p2.toInt8.toInt32), (p2.toInt8.toInt32), (p2.toInt8.toInt32), (p2.toInt8.toInt32), (p2.toInt8.toInt32)] := B20
    have Zn20 : n0 ≤ h20.size := Nat.le_trans Zn9 K20.1
    refine own_st (f' := (mkF m 89 #[.val (.int p0), .val (.int p1), .val (.int p2), .val (.int (2 : Int32)), .val (.int (p2.toInt8.toInt32)), .val (.ref b1), .val (.long (own_t0_73 p0 p1 p2)), .second] [(.ref b1)])) (fun t k => XS.aload X20.her hx rfl (hb hby at_87) rfl rfl k) ?_
    refine own_st (f' := (mkF m 90 #[.val (.int p0), .val (.int p1), .val (.int p2), .val (.int (2 : Int32)), .val (.int (p2.toInt8.toInt32)), .val (.ref b1), .val (.long (own_t0_73 p0 p1 p2)), .second] [(.int (2 : Int32)), (.ref b1)])) (fun t k => XS.iloadN X20.her hx rfl (hb hby at_89) rfl k) ?_
    refine own_st (f' := (mkF m 91 #[.val (.int p0), .val (.int p1), .val (.int p2), .val (.int (2 : Int32)), .val (.int (p2.toInt8.toInt32)), .val (.ref b1), .val (.long (own_t0_73 p0 p1 p2)), .second] [(.int (1 : Int32)), (.int (2 : Int32)), (.ref b1)])) (fun t k => XS.iconst X20.her hx rfl (hb hby at_90) k) ?_
    refine own_st (f' := (mkF m 92 #[.val (.int p0), .val (.int p1), .val (.int p2), .val (.int (2 : Int32)), .val (.int (p2.toInt8.toInt32)), .val (.ref b1), .val (.long (own_t0_73 p0 p1 p2)), .second] [(.int (3 : Int32)), (.ref b1)])) (fun t k => XS.iadd X20.her hx rfl (hb hby at_91) rfl k) ?_
    refine own_st (f' := (mkF m 94 #[.val (.int p0), .val (.int p1), .val (.int p2), .val (.int (2 : Int32)), .val (.int (p2.toInt8.toInt32)), .val (.ref b1), .val (.long (own_t0_73 p0 p1 p2)), .second] [(.long (own_t0_73 p0 p1 p2)), (.int (3 : Int32)), (.ref b1)])) (fun t k => XS.lload X20.her hx rfl (hb hby at_92) rfl k) ?_
    refine own_ldcL X20 hx hZ hown (own_w4 hw) (hb hby at_94) ?_
    refine own_st (f' := (mkF m 98 #[.val (.int p0), .val (.int p1), .val (.int p2), .val (.int (2 : Int32)), .val (.int (p2.toInt8.toInt32)), .val (.ref b1), .val (.long (own_t0_73 p0 p1 p2)), .second] [(.long ((own_t0_73 p0 p1 p2) / (65536 : Int64))), (.int (3 : Int32)), (.ref b1)])) (fun t k => XS.ldiv X20.her hx rfl (hb hby at_97) rfl (by decide) k) ?_
    refine own_ldcL X20 hx hZ hown (own_w5 hw) (hb hby at_98) ?_
    refine own_lrem X20 hx (hb hby at_101) (by decide) ?_
    refine own_st (f' := (mkF m 103 #[.val (.int p0), .val (.int p1), .val (.int p2), .val (.int (2 : Int32)), .val (.int (p2.toInt8.toInt32)), .val (.ref b1), .val (.long (own_t0_73 p0 p1 p2)), .second] [(.int ((((own_t0_73 p0 p1 p2) / (65536 : Int64)) % (256 : Int64)).toInt32)), (.int (3 : Int32)), (.ref b1)])) (fun t k => XS.l2i X20.her hx rfl (hb hby at_102) rfl k) ?_
    refine own_st (f' := (mkF m 104 #[.val (.int p0), .val (.int p1), .val (.int p2), .val (.int (2 : Int32)), .val (.int (p2.toInt8.toInt32)), .val (.ref b1), .val (.long (own_t0_73 p0 p1 p2)), .second] [(.int (((((own_t0_73 p0 p1 p2) / (65536 : Int64)) % (256 : Int64)).toInt32).toInt8.toInt32)), (.int (3 : Int32)), (.ref b1)])) (fun t k => XS.i2b X20.her hx rfl (hb hby at_103) rfl k) ?_
    refine own_bstore X20 hx hZ B20 (by decide) (by show 3 < 8; decide) (hb hby at_104) ga_b1 (Or.inr q1) ?_
    intro T21 h21 X21 K21 W21 B21
    rw [show ((((((own_t0_73 p0 p1 p2) / (65536 : Int64)) % (256 : Int64)).toInt32).toInt8.toInt32)).toInt8.toInt32 = (((((own_t0_73 p0 p1 p2) / (65536 : Int64)) % (256 : Int64)).toInt32).toInt8.toInt32) from own_b2 _] at B21
    replace B21 : own_B Z h21 b1 [(p2.toInt8.toInt32), (p2.toInt8.toInt32), ((((own_t0_73 p0 p1 p2) / (16777216 : Int64)).toInt32).toInt8.toInt32), (((((own_t0_73 p0 p1 p2) / (65536 : Int64)) % (256 : Int64)).toInt32).toInt8.toInt32), (p2.toInt8.toInt32), (p2.toInt8.toInt32), (p2.toInt8.toInt32), (p2.toInt8.toInt32)] := B21
    have Zn21 : n0 ≤ h21.size := Nat.le_trans Zn20 K21.1
    refine own_st (f' := (mkF m 107 #[.val (.int p0), .val (.int p1), .val (.int p2), .val (.int (2 : Int32)), .val (.int (p2.toInt8.toInt32)), .val (.ref b1), .val (.long (own_t0_73 p0 p1 p2)), .second] [(.ref b1)])) (fun t k => XS.aload X21.her hx rfl (hb hby at_105) rfl rfl k) ?_
    refine own_st (f' := (mkF m 108 #[.val (.int p0), .val (.int p1), .val (.int p2), .val (.int (2 : Int32)), .val (.int (p2.toInt8.toInt32)), .val (.ref b1), .val (.long (own_t0_73 p0 p1 p2)), .second] [(.int (2 : Int32)), (.ref b1)])) (fun t k => XS.iloadN X21.her hx rfl (hb hby at_107) rfl k) ?_
    refine own_st (f' := (mkF m 109 #[.val (.int p0), .val (.int p1), .val (.int p2), .val (.int (2 : Int32)), .val (.int (p2.toInt8.toInt32)), .val (.ref b1), .val (.long (own_t0_73 p0 p1 p2)), .second] [(.int (2 : Int32)), (.int (2 : Int32)), (.ref b1)])) (fun t k => XS.iconst X21.her hx rfl (hb hby at_108) k) ?_
    refine own_st (f' := (mkF m 110 #[.val (.int p0), .val (.int p1), .val (.int p2), .val (.int (2 : Int32)), .val (.int (p2.toInt8.toInt32)), .val (.ref b1), .val (.long (own_t0_73 p0 p1 p2)), .second] [(.int (4 : Int32)), (.ref b1)])) (fun t k => XS.iadd X21.her hx rfl (hb hby at_109) rfl k) ?_
    refine own_st (f' := (mkF m 112 #[.val (.int p0), .val (.int p1), .val (.int p2), .val (.int (2 : Int32)), .val (.int (p2.toInt8.toInt32)), .val (.ref b1), .val (.long (own_t0_73 p0 p1 p2)), .second] [(.long (own_t0_73 p0 p1 p2)), (.int (4 : Int32)), (.ref b1)])) (fun t k => XS.lload X21.her hx rfl (hb hby at_110) rfl k) ?_
    refine own_ldcL X21 hx hZ hown (own_w5 hw) (hb hby at_112) ?_
    refine own_st (f' := (mkF m 116 #[.val (.int p0), .val (.int p1), .val (.int p2), .val (.int (2 : Int32)), .val (.int (p2.toInt8.toInt32)), .val (.ref b1), .val (.long (own_t0_73 p0 p1 p2)), .second] [(.long ((own_t0_73 p0 p1 p2) / (256 : Int64))), (.int (4 : Int32)), (.ref b1)])) (fun t k => XS.ldiv X21.her hx rfl (hb hby at_115) rfl (by decide) k) ?_
    refine own_ldcL X21 hx hZ hown (own_w5 hw) (hb hby at_116) ?_
    refine own_lrem X21 hx (hb hby at_119) (by decide) ?_
    refine own_st (f' := (mkF m 121 #[.val (.int p0), .val (.int p1), .val (.int p2), .val (.int (2 : Int32)), .val (.int (p2.toInt8.toInt32)), .val (.ref b1), .val (.long (own_t0_73 p0 p1 p2)), .second] [(.int ((((own_t0_73 p0 p1 p2) / (256 : Int64)) % (256 : Int64)).toInt32)), (.int (4 : Int32)), (.ref b1)])) (fun t k => XS.l2i X21.her hx rfl (hb hby at_120) rfl k) ?_
    refine own_st (f' := (mkF m 122 #[.val (.int p0), .val (.int p1), .val (.int p2), .val (.int (2 : Int32)), .val (.int (p2.toInt8.toInt32)), .val (.ref b1), .val (.long (own_t0_73 p0 p1 p2)), .second] [(.int (((((own_t0_73 p0 p1 p2) / (256 : Int64)) % (256 : Int64)).toInt32).toInt8.toInt32)), (.int (4 : Int32)), (.ref b1)])) (fun t k => XS.i2b X21.her hx rfl (hb hby at_121) rfl k) ?_
    refine own_bstore X21 hx hZ B21 (by decide) (by show 4 < 8; decide) (hb hby at_122) ga_b1 (Or.inr q1) ?_
    intro T22 h22 X22 K22 W22 B22
    rw [show ((((((own_t0_73 p0 p1 p2) / (256 : Int64)) % (256 : Int64)).toInt32).toInt8.toInt32)).toInt8.toInt32 = (((((own_t0_73 p0 p1 p2) / (256 : Int64)) % (256 : Int64)).toInt32).toInt8.toInt32) from own_b2 _] at B22
    replace B22 : own_B Z h22 b1 [(p2.toInt8.toInt32), (p2.toInt8.toInt32), ((((own_t0_73 p0 p1 p2) / (16777216 : Int64)).toInt32).toInt8.toInt32), (((((own_t0_73 p0 p1 p2) / (65536 : Int64)) % (256 : Int64)).toInt32).toInt8.toInt32), (((((own_t0_73 p0 p1 p2) / (256 : Int64)) % (256 : Int64)).toInt32).toInt8.toInt32), (p2.toInt8.toInt32), (p2.toInt8.toInt32), (p2.toInt8.toInt32)] := B22
    have Zn22 : n0 ≤ h22.size := Nat.le_trans Zn21 K22.1
    refine own_st (f' := (mkF m 125 #[.val (.int p0), .val (.int p1), .val (.int p2), .val (.int (2 : Int32)), .val (.int (p2.toInt8.toInt32)), .val (.ref b1), .val (.long (own_t0_73 p0 p1 p2)), .second] [(.ref b1)])) (fun t k => XS.aload X22.her hx rfl (hb hby at_123) rfl rfl k) ?_
    refine own_st (f' := (mkF m 126 #[.val (.int p0), .val (.int p1), .val (.int p2), .val (.int (2 : Int32)), .val (.int (p2.toInt8.toInt32)), .val (.ref b1), .val (.long (own_t0_73 p0 p1 p2)), .second] [(.int (2 : Int32)), (.ref b1)])) (fun t k => XS.iloadN X22.her hx rfl (hb hby at_125) rfl k) ?_
    refine own_st (f' := (mkF m 127 #[.val (.int p0), .val (.int p1), .val (.int p2), .val (.int (2 : Int32)), .val (.int (p2.toInt8.toInt32)), .val (.ref b1), .val (.long (own_t0_73 p0 p1 p2)), .second] [(.int (3 : Int32)), (.int (2 : Int32)), (.ref b1)])) (fun t k => XS.iconst X22.her hx rfl (hb hby at_126) k) ?_
    refine own_st (f' := (mkF m 128 #[.val (.int p0), .val (.int p1), .val (.int p2), .val (.int (2 : Int32)), .val (.int (p2.toInt8.toInt32)), .val (.ref b1), .val (.long (own_t0_73 p0 p1 p2)), .second] [(.int (5 : Int32)), (.ref b1)])) (fun t k => XS.iadd X22.her hx rfl (hb hby at_127) rfl k) ?_
    refine own_st (f' := (mkF m 130 #[.val (.int p0), .val (.int p1), .val (.int p2), .val (.int (2 : Int32)), .val (.int (p2.toInt8.toInt32)), .val (.ref b1), .val (.long (own_t0_73 p0 p1 p2)), .second] [(.long (own_t0_73 p0 p1 p2)), (.int (5 : Int32)), (.ref b1)])) (fun t k => XS.lload X22.her hx rfl (hb hby at_128) rfl k) ?_
    refine own_ldcL X22 hx hZ hown (own_w5 hw) (hb hby at_130) ?_
    refine own_lrem X22 hx (hb hby at_133) (by decide) ?_
    refine own_st (f' := (mkF m 135 #[.val (.int p0), .val (.int p1), .val (.int p2), .val (.int (2 : Int32)), .val (.int (p2.toInt8.toInt32)), .val (.ref b1), .val (.long (own_t0_73 p0 p1 p2)), .second] [(.int (((own_t0_73 p0 p1 p2) % (256 : Int64)).toInt32)), (.int (5 : Int32)), (.ref b1)])) (fun t k => XS.l2i X22.her hx rfl (hb hby at_134) rfl k) ?_
    refine own_st (f' := (mkF m 136 #[.val (.int p0), .val (.int p1), .val (.int p2), .val (.int (2 : Int32)), .val (.int (p2.toInt8.toInt32)), .val (.ref b1), .val (.long (own_t0_73 p0 p1 p2)), .second] [(.int ((((own_t0_73 p0 p1 p2) % (256 : Int64)).toInt32).toInt8.toInt32)), (.int (5 : Int32)), (.ref b1)])) (fun t k => XS.i2b X22.her hx rfl (hb hby at_135) rfl k) ?_
    refine own_bstore X22 hx hZ B22 (by decide) (by show 5 < 8; decide) (hb hby at_136) ga_b1 (Or.inr q1) ?_
    intro T23 h23 X23 K23 W23 B23
    rw [show (((((own_t0_73 p0 p1 p2) % (256 : Int64)).toInt32).toInt8.toInt32)).toInt8.toInt32 = ((((own_t0_73 p0 p1 p2) % (256 : Int64)).toInt32).toInt8.toInt32) from own_b2 _] at B23
    replace B23 : own_B Z h23 b1 [(p2.toInt8.toInt32), (p2.toInt8.toInt32), ((((own_t0_73 p0 p1 p2) / (16777216 : Int64)).toInt32).toInt8.toInt32), (((((own_t0_73 p0 p1 p2) / (65536 : Int64)) % (256 : Int64)).toInt32).toInt8.toInt32), (((((own_t0_73 p0 p1 p2) / (256 : Int64)) % (256 : Int64)).toInt32).toInt8.toInt32), ((((own_t0_73 p0 p1 p2) % (256 : Int64)).toInt32).toInt8.toInt32), (p2.toInt8.toInt32), (p2.toInt8.toInt32)] := B23
    have Zn23 : n0 ≤ h23.size := Nat.le_trans Zn22 K23.1
    refine own_st (f' := (mkF m 139 #[.val (.int p0), .val (.int p1), .val (.int p2), .val (.int (2 : Int32)), .val (.int (p2.toInt8.toInt32)), .val (.ref b1), .val (.long (own_t0_73 p0 p1 p2)), .second] [(.ref b1)])) (fun t k => XS.aload X23.her hx rfl (hb hby at_137) rfl rfl k) ?_
    refine own_st (f' := (mkF m 140 #[.val (.int p0), .val (.int p1), .val (.int p2), .val (.int (2 : Int32)), .val (.int (p2.toInt8.toInt32)), .val (.ref b1), .val (.long (own_t0_73 p0 p1 p2)), .second] [(.int (2 : Int32)), (.ref b1)])) (fun t k => XS.iloadN X23.her hx rfl (hb hby at_139) rfl k) ?_
    refine own_callSP (y := (⟨"com/example/luoshu/luoshu/Words", "read", "([BI)I"⟩ : MethodName)) (W := 0) [(.ref b1), (.int (2 : Int32))] X23 hx hZ hown (own_w6 hw) (own_w7 hw) (own_w8 hw) (own_w9 hw) (by decide) (own_c1 l Z a0 hw h23 n0 Zn23 b1 (2 : Int32) ((((own_t0_73 p0 p1 p2) / (16777216 : Int64)).toInt32).toInt8.toInt32) (((((own_t0_73 p0 p1 p2) / (65536 : Int64)) % (256 : Int64)).toInt32).toInt8.toInt32) (((((own_t0_73 p0 p1 p2) / (256 : Int64)) % (256 : Int64)).toInt32).toInt8.toInt32) ((((own_t0_73 p0 p1 p2) % (256 : Int64)).toInt32).toInt8.toInt32) _ B23 (by decide) rfl (by decide) rfl (by decide) rfl (by decide) rfl) (by decide) (by decide) (by decide) (by decide) (by rw [hml]; rfl) own_pd0 rfl rfl (Nat.le_of_eq rfl) (hb hby at_140) ?_
    intro T24 X24
    show own_G p e below _ T24 (mkF m 143 #[.val (.int p0), .val (.int p1), .val (.int p2), .val (.int (2 : Int32)), .val (.int (p2.toInt8.toInt32)), .val (.ref b1), .val (.long (own_t0_73 p0 p1 p2)), .second] [(.int (own_F1 (2 : Int32) ((((own_t0_73 p0 p1 p2) / (16777216 : Int64)).toInt32).toInt8.toInt32) (((((own_t0_73 p0 p1 p2) / (65536 : Int64)) % (256 : Int64)).toInt32).toInt8.toInt32) (((((own_t0_73 p0 p1 p2) / (256 : Int64)) % (256 : Int64)).toInt32).toInt8.toInt32) ((((own_t0_73 p0 p1 p2) % (256 : Int64)).toInt32).toInt8.toInt32)))])
    refine own_st (f' := (mkF m 144 #[.val (.int p0), .val (.int p1), .val (.int p2), .val (.int (2 : Int32)), .val (.int (p2.toInt8.toInt32)), .val (.ref b1), .val (.long (own_t0_73 p0 p1 p2)), .second] [(.int p0), (.int (own_F1 (2 : Int32) ((((own_t0_73 p0 p1 p2) / (16777216 : Int64)).toInt32).toInt8.toInt32) (((((own_t0_73 p0 p1 p2) / (65536 : Int64)) % (256 : Int64)).toInt32).toInt8.toInt32) (((((own_t0_73 p0 p1 p2) / (256 : Int64)) % (256 : Int64)).toInt32).toInt8.toInt32) ((((own_t0_73 p0 p1 p2) % (256 : Int64)).toInt32).toInt8.toInt32)))])) (fun t k => XS.iloadN X24.her hx rfl (hb hby at_143) rfl k) ?_
    refine own_st (f' := (mkF m 147 #[.val (.int p0), .val (.int p1), .val (.int p2), .val (.int (2 : Int32)), .val (.int (p2.toInt8.toInt32)), .val (.ref b1), .val (.long (own_t0_73 p0 p1 p2)), .second] [])) (fun t k => XS.icmpNo X24.her hx rfl (hb hby at_144) rfl (teq (own_read p0 p1 p2 _ : (own_F1 (2 : Int32) ((((own_t0_73 p0 p1 p2) / (16777216 : Int64)).toInt32).toInt8.toInt32) (((((own_t0_73 p0 p1 p2) / (65536 : Int64)) % (256 : Int64)).toInt32).toInt8.toInt32) (((((own_t0_73 p0 p1 p2) / (256 : Int64)) % (256 : Int64)).toInt32).toInt8.toInt32) ((((own_t0_73 p0 p1 p2) % (256 : Int64)).toInt32).toInt8.toInt32)) = p0)).2 k) ?_
    refine own_st (f' := (mkF m 148 #[.val (.int p0), .val (.int p1), .val (.int p2), .val (.int (2 : Int32)), .val (.int (p2.toInt8.toInt32)), .val (.ref b1), .val (.long (own_t0_73 p0 p1 p2)), .second] [(.int (1 : Int32))])) (fun t k => XS.iconst X24.her hx rfl (hb hby at_147) k) ?_
    refine own_st (f' := (mkF m 152 #[.val (.int p0), .val (.int p1), .val (.int p2), .val (.int (2 : Int32)), .val (.int (p2.toInt8.toInt32)), .val (.ref b1), .val (.long (own_t0_73 p0 p1 p2)), .second] [(.int (1 : Int32))])) (fun t k => XS.goto X24.her hx rfl (pc0 := 148) (pc' := 152) rfl (hb hby at_148) (by decide) (by decide) k) ?_
    refine own_retN (t := .boolean) X24 hx hret hlk (by simp) (hb hby at_152) (by first | decide | omega) (by first | decide | omega) ?_
    exact congrArg (fun q => some (Value.int q)) (by decide)
  · rw [ho]
    refine own_st (f' := (mkF m 77 #[.val (.int p0), .val (.int p1), .val (.int p2), .val (.int (3 : Int32)), .val (.int (p2.toInt8.toInt32)), .val (.ref b1), .val (.long (own_t0_73 p0 p1 p2)), .second] [(.ref b1)])) (fun t k => XS.aload X9.her hx rfl (hb hby at_75) rfl rfl k) ?_
    refine own_st (f' := (mkF m 78 #[.val (.int p0), .val (.int p1), .val (.int p2), .val (.int (3 : Int32)), .val (.int (p2.toInt8.toInt32)), .val (.ref b1), .val (.long (own_t0_73 p0 p1 p2)), .second] [(.int (3 : Int32)), (.ref b1)])) (fun t k => XS.iloadN X9.her hx rfl (hb hby at_77) rfl k) ?_
    refine own_st (f' := (mkF m 80 #[.val (.int p0), .val (.int p1), .val (.int p2), .val (.int (3 : Int32)), .val (.int (p2.toInt8.toInt32)), .val (.ref b1), .val (.long (own_t0_73 p0 p1 p2)), .second] [(.long (own_t0_73 p0 p1 p2)), (.int (3 : Int32)), (.ref b1)])) (fun t k => XS.lload X9.her hx rfl (hb hby at_78) rfl k) ?_
    refine own_ldcL X9 hx hZ hown (own_w3 hw) (hb hby at_80) ?_
    refine own_st (f' := (mkF m 84 #[.val (.int p0), .val (.int p1), .val (.int p2), .val (.int (3 : Int32)), .val (.int (p2.toInt8.toInt32)), .val (.ref b1), .val (.long (own_t0_73 p0 p1 p2)), .second] [(.long ((own_t0_73 p0 p1 p2) / (16777216 : Int64))), (.int (3 : Int32)), (.ref b1)])) (fun t k => XS.ldiv X9.her hx rfl (hb hby at_83) rfl (by decide) k) ?_
    refine own_st (f' := (mkF m 85 #[.val (.int p0), .val (.int p1), .val (.int p2), .val (.int (3 : Int32)), .val (.int (p2.toInt8.toInt32)), .val (.ref b1), .val (.long (own_t0_73 p0 p1 p2)), .second] [(.int (((own_t0_73 p0 p1 p2) / (16777216 : Int64)).toInt32)), (.int (3 : Int32)), (.ref b1)])) (fun t k => XS.l2i X9.her hx rfl (hb hby at_84) rfl k) ?_
    refine own_st (f' := (mkF m 86 #[.val (.int p0), .val (.int p1), .val (.int p2), .val (.int (3 : Int32)), .val (.int (p2.toInt8.toInt32)), .val (.ref b1), .val (.long (own_t0_73 p0 p1 p2)), .second] [(.int ((((own_t0_73 p0 p1 p2) / (16777216 : Int64)).toInt32).toInt8.toInt32)), (.int (3 : Int32)), (.ref b1)])) (fun t k => XS.i2b X9.her hx rfl (hb hby at_85) rfl k) ?_
    refine own_bstore X9 hx hZ B9 (by decide) (by show 3 < 8; decide) (hb hby at_86) ga_b1 (Or.inr q1) ?_
    intro T25 h25 X25 K25 W25 B25
    rw [show (((((own_t0_73 p0 p1 p2) / (16777216 : Int64)).toInt32).toInt8.toInt32)).toInt8.toInt32 = ((((own_t0_73 p0 p1 p2) / (16777216 : Int64)).toInt32).toInt8.toInt32) from own_b2 _] at B25
    replace B25 : own_B Z h25 b1 [(p2.toInt8.toInt32), (p2.toInt8.toInt32), (p2.toInt8.toInt32), ((((own_t0_73 p0 p1 p2) / (16777216 : Int64)).toInt32).toInt8.toInt32), (p2.toInt8.toInt32), (p2.toInt8.toInt32), (p2.toInt8.toInt32), (p2.toInt8.toInt32)] := B25
    have Zn25 : n0 ≤ h25.size := Nat.le_trans Zn9 K25.1
    refine own_st (f' := (mkF m 89 #[.val (.int p0), .val (.int p1), .val (.int p2), .val (.int (3 : Int32)), .val (.int (p2.toInt8.toInt32)), .val (.ref b1), .val (.long (own_t0_73 p0 p1 p2)), .second] [(.ref b1)])) (fun t k => XS.aload X25.her hx rfl (hb hby at_87) rfl rfl k) ?_
    refine own_st (f' := (mkF m 90 #[.val (.int p0), .val (.int p1), .val (.int p2), .val (.int (3 : Int32)), .val (.int (p2.toInt8.toInt32)), .val (.ref b1), .val (.long (own_t0_73 p0 p1 p2)), .second] [(.int (3 : Int32)), (.ref b1)])) (fun t k => XS.iloadN X25.her hx rfl (hb hby at_89) rfl k) ?_
    refine own_st (f' := (mkF m 91 #[.val (.int p0), .val (.int p1), .val (.int p2), .val (.int (3 : Int32)), .val (.int (p2.toInt8.toInt32)), .val (.ref b1), .val (.long (own_t0_73 p0 p1 p2)), .second] [(.int (1 : Int32)), (.int (3 : Int32)), (.ref b1)])) (fun t k => XS.iconst X25.her hx rfl (hb hby at_90) k) ?_
    refine own_st (f' := (mkF m 92 #[.val (.int p0), .val (.int p1), .val (.int p2), .val (.int (3 : Int32)), .val (.int (p2.toInt8.toInt32)), .val (.ref b1), .val (.long (own_t0_73 p0 p1 p2)), .second] [(.int (4 : Int32)), (.ref b1)])) (fun t k => XS.iadd X25.her hx rfl (hb hby at_91) rfl k) ?_
    refine own_st (f' := (mkF m 94 #[.val (.int p0), .val (.int p1), .val (.int p2), .val (.int (3 : Int32)), .val (.int (p2.toInt8.toInt32)), .val (.ref b1), .val (.long (own_t0_73 p0 p1 p2)), .second] [(.long (own_t0_73 p0 p1 p2)), (.int (4 : Int32)), (.ref b1)])) (fun t k => XS.lload X25.her hx rfl (hb hby at_92) rfl k) ?_
    refine own_ldcL X25 hx hZ hown (own_w4 hw) (hb hby at_94) ?_
    refine own_st (f' := (mkF m 98 #[.val (.int p0), .val (.int p1), .val (.int p2), .val (.int (3 : Int32)), .val (.int (p2.toInt8.toInt32)), .val (.ref b1), .val (.long (own_t0_73 p0 p1 p2)), .second] [(.long ((own_t0_73 p0 p1 p2) / (65536 : Int64))), (.int (4 : Int32)), (.ref b1)])) (fun t k => XS.ldiv X25.her hx rfl (hb hby at_97) rfl (by decide) k) ?_
    refine own_ldcL X25 hx hZ hown (own_w5 hw) (hb hby at_98) ?_
    refine own_lrem X25 hx (hb hby at_101) (by decide) ?_
    refine own_st (f' := (mkF m 103 #[.val (.int p0), .val (.int p1), .val (.int p2), .val (.int (3 : Int32)), .val (.int (p2.toInt8.toInt32)), .val (.ref b1), .val (.long (own_t0_73 p0 p1 p2)), .second] [(.int ((((own_t0_73 p0 p1 p2) / (65536 : Int64)) % (256 : Int64)).toInt32)), (.int (4 : Int32)), (.ref b1)])) (fun t k => XS.l2i X25.her hx rfl (hb hby at_102) rfl k) ?_
    refine own_st (f' := (mkF m 104 #[.val (.int p0), .val (.int p1), .val (.int p2), .val (.int (3 : Int32)), .val (.int (p2.toInt8.toInt32)), .val (.ref b1), .val (.long (own_t0_73 p0 p1 p2)), .second] [(.int (((((own_t0_73 p0 p1 p2) / (65536 : Int64)) % (256 : Int64)).toInt32).toInt8.toInt32)), (.int (4 : Int32)), (.ref b1)])) (fun t k => XS.i2b X25.her hx rfl (hb hby at_103) rfl k) ?_
    refine own_bstore X25 hx hZ B25 (by decide) (by show 4 < 8; decide) (hb hby at_104) ga_b1 (Or.inr q1) ?_
    intro T26 h26 X26 K26 W26 B26
    rw [show ((((((own_t0_73 p0 p1 p2) / (65536 : Int64)) % (256 : Int64)).toInt32).toInt8.toInt32)).toInt8.toInt32 = (((((own_t0_73 p0 p1 p2) / (65536 : Int64)) % (256 : Int64)).toInt32).toInt8.toInt32) from own_b2 _] at B26
    replace B26 : own_B Z h26 b1 [(p2.toInt8.toInt32), (p2.toInt8.toInt32), (p2.toInt8.toInt32), ((((own_t0_73 p0 p1 p2) / (16777216 : Int64)).toInt32).toInt8.toInt32), (((((own_t0_73 p0 p1 p2) / (65536 : Int64)) % (256 : Int64)).toInt32).toInt8.toInt32), (p2.toInt8.toInt32), (p2.toInt8.toInt32), (p2.toInt8.toInt32)] := B26
    have Zn26 : n0 ≤ h26.size := Nat.le_trans Zn25 K26.1
    refine own_st (f' := (mkF m 107 #[.val (.int p0), .val (.int p1), .val (.int p2), .val (.int (3 : Int32)), .val (.int (p2.toInt8.toInt32)), .val (.ref b1), .val (.long (own_t0_73 p0 p1 p2)), .second] [(.ref b1)])) (fun t k => XS.aload X26.her hx rfl (hb hby at_105) rfl rfl k) ?_
    refine own_st (f' := (mkF m 108 #[.val (.int p0), .val (.int p1), .val (.int p2), .val (.int (3 : Int32)), .val (.int (p2.toInt8.toInt32)), .val (.ref b1), .val (.long (own_t0_73 p0 p1 p2)), .second] [(.int (3 : Int32)), (.ref b1)])) (fun t k => XS.iloadN X26.her hx rfl (hb hby at_107) rfl k) ?_
    refine own_st (f' := (mkF m 109 #[.val (.int p0), .val (.int p1), .val (.int p2), .val (.int (3 : Int32)), .val (.int (p2.toInt8.toInt32)), .val (.ref b1), .val (.long (own_t0_73 p0 p1 p2)), .second] [(.int (2 : Int32)), (.int (3 : Int32)), (.ref b1)])) (fun t k => XS.iconst X26.her hx rfl (hb hby at_108) k) ?_
    refine own_st (f' := (mkF m 110 #[.val (.int p0), .val (.int p1), .val (.int p2), .val (.int (3 : Int32)), .val (.int (p2.toInt8.toInt32)), .val (.ref b1), .val (.long (own_t0_73 p0 p1 p2)), .second] [(.int (5 : Int32)), (.ref b1)])) (fun t k => XS.iadd X26.her hx rfl (hb hby at_109) rfl k) ?_
    refine own_st (f' := (mkF m 112 #[.val (.int p0), .val (.int p1), .val (.int p2), .val (.int (3 : Int32)), .val (.int (p2.toInt8.toInt32)), .val (.ref b1), .val (.long (own_t0_73 p0 p1 p2)), .second] [(.long (own_t0_73 p0 p1 p2)), (.int (5 : Int32)), (.ref b1)])) (fun t k => XS.lload X26.her hx rfl (hb hby at_110) rfl k) ?_
    refine own_ldcL X26 hx hZ hown (own_w5 hw) (hb hby at_112) ?_
    refine own_st (f' := (mkF m 116 #[.val (.int p0), .val (.int p1), .val (.int p2), .val (.int (3 : Int32)), .val (.int (p2.toInt8.toInt32)), .val (.ref b1), .val (.long (own_t0_73 p0 p1 p2)), .second] [(.long ((own_t0_73 p0 p1 p2) / (256 : Int64))), (.int (5 : Int32)), (.ref b1)])) (fun t k => XS.ldiv X26.her hx rfl (hb hby at_115) rfl (by decide) k) ?_
    refine own_ldcL X26 hx hZ hown (own_w5 hw) (hb hby at_116) ?_
    refine own_lrem X26 hx (hb hby at_119) (by decide) ?_
    refine own_st (f' := (mkF m 121 #[.val (.int p0), .val (.int p1), .val (.int p2), .val (.int (3 : Int32)), .val (.int (p2.toInt8.toInt32)), .val (.ref b1), .val (.long (own_t0_73 p0 p1 p2)), .second] [(.int ((((own_t0_73 p0 p1 p2) / (256 : Int64)) % (256 : Int64)).toInt32)), (.int (5 : Int32)), (.ref b1)])) (fun t k => XS.l2i X26.her hx rfl (hb hby at_120) rfl k) ?_
    refine own_st (f' := (mkF m 122 #[.val (.int p0), .val (.int p1), .val (.int p2), .val (.int (3 : Int32)), .val (.int (p2.toInt8.toInt32)), .val (.ref b1), .val (.long (own_t0_73 p0 p1 p2)), .second] [(.int (((((own_t0_73 p0 p1 p2) / (256 : Int64)) % (256 : Int64)).toInt32).toInt8.toInt32)), (.int (5 : Int32)), (.ref b1)])) (fun t k => XS.i2b X26.her hx rfl (hb hby at_121) rfl k) ?_
    refine own_bstore X26 hx hZ B26 (by decide) (by show 5 < 8; decide) (hb hby at_122) ga_b1 (Or.inr q1) ?_
    intro T27 h27 X27 K27 W27 B27
    rw [show ((((((own_t0_73 p0 p1 p2) / (256 : Int64)) % (256 : Int64)).toInt32).toInt8.toInt32)).toInt8.toInt32 = (((((own_t0_73 p0 p1 p2) / (256 : Int64)) % (256 : Int64)).toInt32).toInt8.toInt32) from own_b2 _] at B27
    replace B27 : own_B Z h27 b1 [(p2.toInt8.toInt32), (p2.toInt8.toInt32), (p2.toInt8.toInt32), ((((own_t0_73 p0 p1 p2) / (16777216 : Int64)).toInt32).toInt8.toInt32), (((((own_t0_73 p0 p1 p2) / (65536 : Int64)) % (256 : Int64)).toInt32).toInt8.toInt32), (((((own_t0_73 p0 p1 p2) / (256 : Int64)) % (256 : Int64)).toInt32).toInt8.toInt32), (p2.toInt8.toInt32), (p2.toInt8.toInt32)] := B27
    have Zn27 : n0 ≤ h27.size := Nat.le_trans Zn26 K27.1
    refine own_st (f' := (mkF m 125 #[.val (.int p0), .val (.int p1), .val (.int p2), .val (.int (3 : Int32)), .val (.int (p2.toInt8.toInt32)), .val (.ref b1), .val (.long (own_t0_73 p0 p1 p2)), .second] [(.ref b1)])) (fun t k => XS.aload X27.her hx rfl (hb hby at_123) rfl rfl k) ?_
    refine own_st (f' := (mkF m 126 #[.val (.int p0), .val (.int p1), .val (.int p2), .val (.int (3 : Int32)), .val (.int (p2.toInt8.toInt32)), .val (.ref b1), .val (.long (own_t0_73 p0 p1 p2)), .second] [(.int (3 : Int32)), (.ref b1)])) (fun t k => XS.iloadN X27.her hx rfl (hb hby at_125) rfl k) ?_
    refine own_st (f' := (mkF m 127 #[.val (.int p0), .val (.int p1), .val (.int p2), .val (.int (3 : Int32)), .val (.int (p2.toInt8.toInt32)), .val (.ref b1), .val (.long (own_t0_73 p0 p1 p2)), .second] [(.int (3 : Int32)), (.int (3 : Int32)), (.ref b1)])) (fun t k => XS.iconst X27.her hx rfl (hb hby at_126) k) ?_
    refine own_st (f' := (mkF m 128 #[.val (.int p0), .val (.int p1), .val (.int p2), .val (.int (3 : Int32)), .val (.int (p2.toInt8.toInt32)), .val (.ref b1), .val (.long (own_t0_73 p0 p1 p2)), .second] [(.int (6 : Int32)), (.ref b1)])) (fun t k => XS.iadd X27.her hx rfl (hb hby at_127) rfl k) ?_
    refine own_st (f' := (mkF m 130 #[.val (.int p0), .val (.int p1), .val (.int p2), .val (.int (3 : Int32)), .val (.int (p2.toInt8.toInt32)), .val (.ref b1), .val (.long (own_t0_73 p0 p1 p2)), .second] [(.long (own_t0_73 p0 p1 p2)), (.int (6 : Int32)), (.ref b1)])) (fun t k => XS.lload X27.her hx rfl (hb hby at_128) rfl k) ?_
    refine own_ldcL X27 hx hZ hown (own_w5 hw) (hb hby at_130) ?_
    refine own_lrem X27 hx (hb hby at_133) (by decide) ?_
    refine own_st (f' := (mkF m 135 #[.val (.int p0), .val (.int p1), .val (.int p2), .val (.int (3 : Int32)), .val (.int (p2.toInt8.toInt32)), .val (.ref b1), .val (.long (own_t0_73 p0 p1 p2)), .second] [(.int (((own_t0_73 p0 p1 p2) % (256 : Int64)).toInt32)), (.int (6 : Int32)), (.ref b1)])) (fun t k => XS.l2i X27.her hx rfl (hb hby at_134) rfl k) ?_
    refine own_st (f' := (mkF m 136 #[.val (.int p0), .val (.int p1), .val (.int p2), .val (.int (3 : Int32)), .val (.int (p2.toInt8.toInt32)), .val (.ref b1), .val (.long (own_t0_73 p0 p1 p2)), .second] [(.int ((((own_t0_73 p0 p1 p2) % (256 : Int64)).toInt32).toInt8.toInt32)), (.int (6 : Int32)), (.ref b1)])) (fun t k => XS.i2b X27.her hx rfl (hb hby at_135) rfl k) ?_
    refine own_bstore X27 hx hZ B27 (by decide) (by show 6 < 8; decide) (hb hby at_136) ga_b1 (Or.inr q1) ?_
    intro T28 h28 X28 K28 W28 B28
    rw [show (((((own_t0_73 p0 p1 p2) % (256 : Int64)).toInt32).toInt8.toInt32)).toInt8.toInt32 = ((((own_t0_73 p0 p1 p2) % (256 : Int64)).toInt32).toInt8.toInt32) from own_b2 _] at B28
    replace B28 : own_B Z h28 b1 [(p2.toInt8.toInt32), (p2.toInt8.toInt32), (p2.toInt8.toInt32), ((((own_t0_73 p0 p1 p2) / (16777216 : Int64)).toInt32).toInt8.toInt32), (((((own_t0_73 p0 p1 p2) / (65536 : Int64)) % (256 : Int64)).toInt32).toInt8.toInt32), (((((own_t0_73 p0 p1 p2) / (256 : Int64)) % (256 : Int64)).toInt32).toInt8.toInt32), ((((own_t0_73 p0 p1 p2) % (256 : Int64)).toInt32).toInt8.toInt32), (p2.toInt8.toInt32)] := B28
    have Zn28 : n0 ≤ h28.size := Nat.le_trans Zn27 K28.1
    refine own_st (f' := (mkF m 139 #[.val (.int p0), .val (.int p1), .val (.int p2), .val (.int (3 : Int32)), .val (.int (p2.toInt8.toInt32)), .val (.ref b1), .val (.long (own_t0_73 p0 p1 p2)), .second] [(.ref b1)])) (fun t k => XS.aload X28.her hx rfl (hb hby at_137) rfl rfl k) ?_
    refine own_st (f' := (mkF m 140 #[.val (.int p0), .val (.int p1), .val (.int p2), .val (.int (3 : Int32)), .val (.int (p2.toInt8.toInt32)), .val (.ref b1), .val (.long (own_t0_73 p0 p1 p2)), .second] [(.int (3 : Int32)), (.ref b1)])) (fun t k => XS.iloadN X28.her hx rfl (hb hby at_139) rfl k) ?_
    refine own_callSP (y := (⟨"com/example/luoshu/luoshu/Words", "read", "([BI)I"⟩ : MethodName)) (W := 0) [(.ref b1), (.int (3 : Int32))] X28 hx hZ hown (own_w6 hw) (own_w7 hw) (own_w8 hw) (own_w9 hw) (by decide) (own_c1 l Z a0 hw h28 n0 Zn28 b1 (3 : Int32) ((((own_t0_73 p0 p1 p2) / (16777216 : Int64)).toInt32).toInt8.toInt32) (((((own_t0_73 p0 p1 p2) / (65536 : Int64)) % (256 : Int64)).toInt32).toInt8.toInt32) (((((own_t0_73 p0 p1 p2) / (256 : Int64)) % (256 : Int64)).toInt32).toInt8.toInt32) ((((own_t0_73 p0 p1 p2) % (256 : Int64)).toInt32).toInt8.toInt32) _ B28 (by decide) rfl (by decide) rfl (by decide) rfl (by decide) rfl) (by decide) (by decide) (by decide) (by decide) (by rw [hml]; rfl) own_pd0 rfl rfl (Nat.le_of_eq rfl) (hb hby at_140) ?_
    intro T29 X29
    show own_G p e below _ T29 (mkF m 143 #[.val (.int p0), .val (.int p1), .val (.int p2), .val (.int (3 : Int32)), .val (.int (p2.toInt8.toInt32)), .val (.ref b1), .val (.long (own_t0_73 p0 p1 p2)), .second] [(.int (own_F1 (3 : Int32) ((((own_t0_73 p0 p1 p2) / (16777216 : Int64)).toInt32).toInt8.toInt32) (((((own_t0_73 p0 p1 p2) / (65536 : Int64)) % (256 : Int64)).toInt32).toInt8.toInt32) (((((own_t0_73 p0 p1 p2) / (256 : Int64)) % (256 : Int64)).toInt32).toInt8.toInt32) ((((own_t0_73 p0 p1 p2) % (256 : Int64)).toInt32).toInt8.toInt32)))])
    refine own_st (f' := (mkF m 144 #[.val (.int p0), .val (.int p1), .val (.int p2), .val (.int (3 : Int32)), .val (.int (p2.toInt8.toInt32)), .val (.ref b1), .val (.long (own_t0_73 p0 p1 p2)), .second] [(.int p0), (.int (own_F1 (3 : Int32) ((((own_t0_73 p0 p1 p2) / (16777216 : Int64)).toInt32).toInt8.toInt32) (((((own_t0_73 p0 p1 p2) / (65536 : Int64)) % (256 : Int64)).toInt32).toInt8.toInt32) (((((own_t0_73 p0 p1 p2) / (256 : Int64)) % (256 : Int64)).toInt32).toInt8.toInt32) ((((own_t0_73 p0 p1 p2) % (256 : Int64)).toInt32).toInt8.toInt32)))])) (fun t k => XS.iloadN X29.her hx rfl (hb hby at_143) rfl k) ?_
    refine own_st (f' := (mkF m 147 #[.val (.int p0), .val (.int p1), .val (.int p2), .val (.int (3 : Int32)), .val (.int (p2.toInt8.toInt32)), .val (.ref b1), .val (.long (own_t0_73 p0 p1 p2)), .second] [])) (fun t k => XS.icmpNo X29.her hx rfl (hb hby at_144) rfl (teq (own_read p0 p1 p2 _ : (own_F1 (3 : Int32) ((((own_t0_73 p0 p1 p2) / (16777216 : Int64)).toInt32).toInt8.toInt32) (((((own_t0_73 p0 p1 p2) / (65536 : Int64)) % (256 : Int64)).toInt32).toInt8.toInt32) (((((own_t0_73 p0 p1 p2) / (256 : Int64)) % (256 : Int64)).toInt32).toInt8.toInt32) ((((own_t0_73 p0 p1 p2) % (256 : Int64)).toInt32).toInt8.toInt32)) = p0)).2 k) ?_
    refine own_st (f' := (mkF m 148 #[.val (.int p0), .val (.int p1), .val (.int p2), .val (.int (3 : Int32)), .val (.int (p2.toInt8.toInt32)), .val (.ref b1), .val (.long (own_t0_73 p0 p1 p2)), .second] [(.int (1 : Int32))])) (fun t k => XS.iconst X29.her hx rfl (hb hby at_147) k) ?_
    refine own_st (f' := (mkF m 152 #[.val (.int p0), .val (.int p1), .val (.int p2), .val (.int (3 : Int32)), .val (.int (p2.toInt8.toInt32)), .val (.ref b1), .val (.long (own_t0_73 p0 p1 p2)), .second] [(.int (1 : Int32))])) (fun t k => XS.goto X29.her hx rfl (pc0 := 148) (pc' := 152) rfl (hb hby at_148) (by decide) (by decide) k) ?_
    refine own_retN (t := .boolean) X29 hx hret hlk (by simp) (hb hby at_152) (by first | decide | omega) (by first | decide | omega) ?_
    exact congrArg (fun q => some (Value.int q)) (by decide)
  · rw [ho]
    refine own_st (f' := (mkF m 77 #[.val (.int p0), .val (.int p1), .val (.int p2), .val (.int (4 : Int32)), .val (.int (p2.toInt8.toInt32)), .val (.ref b1), .val (.long (own_t0_73 p0 p1 p2)), .second] [(.ref b1)])) (fun t k => XS.aload X9.her hx rfl (hb hby at_75) rfl rfl k) ?_
    refine own_st (f' := (mkF m 78 #[.val (.int p0), .val (.int p1), .val (.int p2), .val (.int (4 : Int32)), .val (.int (p2.toInt8.toInt32)), .val (.ref b1), .val (.long (own_t0_73 p0 p1 p2)), .second] [(.int (4 : Int32)), (.ref b1)])) (fun t k => XS.iloadN X9.her hx rfl (hb hby at_77) rfl k) ?_
    refine own_st (f' := (mkF m 80 #[.val (.int p0), .val (.int p1), .val (.int p2), .val (.int (4 : Int32)), .val (.int (p2.toInt8.toInt32)), .val (.ref b1), .val (.long (own_t0_73 p0 p1 p2)), .second] [(.long (own_t0_73 p0 p1 p2)), (.int (4 : Int32)), (.ref b1)])) (fun t k => XS.lload X9.her hx rfl (hb hby at_78) rfl k) ?_
    refine own_ldcL X9 hx hZ hown (own_w3 hw) (hb hby at_80) ?_
    refine own_st (f' := (mkF m 84 #[.val (.int p0), .val (.int p1), .val (.int p2), .val (.int (4 : Int32)), .val (.int (p2.toInt8.toInt32)), .val (.ref b1), .val (.long (own_t0_73 p0 p1 p2)), .second] [(.long ((own_t0_73 p0 p1 p2) / (16777216 : Int64))), (.int (4 : Int32)), (.ref b1)])) (fun t k => XS.ldiv X9.her hx rfl (hb hby at_83) rfl (by decide) k) ?_
    refine own_st (f' := (mkF m 85 #[.val (.int p0), .val (.int p1), .val (.int p2), .val (.int (4 : Int32)), .val (.int (p2.toInt8.toInt32)), .val (.ref b1), .val (.long (own_t0_73 p0 p1 p2)), .second] [(.int (((own_t0_73 p0 p1 p2) / (16777216 : Int64)).toInt32)), (.int (4 : Int32)), (.ref b1)])) (fun t k => XS.l2i X9.her hx rfl (hb hby at_84) rfl k) ?_
    refine own_st (f' := (mkF m 86 #[.val (.int p0), .val (.int p1), .val (.int p2), .val (.int (4 : Int32)), .val (.int (p2.toInt8.toInt32)), .val (.ref b1), .val (.long (own_t0_73 p0 p1 p2)), .second] [(.int ((((own_t0_73 p0 p1 p2) / (16777216 : Int64)).toInt32).toInt8.toInt32)), (.int (4 : Int32)), (.ref b1)])) (fun t k => XS.i2b X9.her hx rfl (hb hby at_85) rfl k) ?_
    refine own_bstore X9 hx hZ B9 (by decide) (by show 4 < 8; decide) (hb hby at_86) ga_b1 (Or.inr q1) ?_
    intro T30 h30 X30 K30 W30 B30
    rw [show (((((own_t0_73 p0 p1 p2) / (16777216 : Int64)).toInt32).toInt8.toInt32)).toInt8.toInt32 = ((((own_t0_73 p0 p1 p2) / (16777216 : Int64)).toInt32).toInt8.toInt32) from own_b2 _] at B30
    replace B30 : own_B Z h30 b1 [(p2.toInt8.toInt32), (p2.toInt8.toInt32), (p2.toInt8.toInt32), (p2.toInt8.toInt32), ((((own_t0_73 p0 p1 p2) / (16777216 : Int64)).toInt32).toInt8.toInt32), (p2.toInt8.toInt32), (p2.toInt8.toInt32), (p2.toInt8.toInt32)] := B30
    have Zn30 : n0 ≤ h30.size := Nat.le_trans Zn9 K30.1
    refine own_st (f' := (mkF m 89 #[.val (.int p0), .val (.int p1), .val (.int p2), .val (.int (4 : Int32)), .val (.int (p2.toInt8.toInt32)), .val (.ref b1), .val (.long (own_t0_73 p0 p1 p2)), .second] [(.ref b1)])) (fun t k => XS.aload X30.her hx rfl (hb hby at_87) rfl rfl k) ?_
    refine own_st (f' := (mkF m 90 #[.val (.int p0), .val (.int p1), .val (.int p2), .val (.int (4 : Int32)), .val (.int (p2.toInt8.toInt32)), .val (.ref b1), .val (.long (own_t0_73 p0 p1 p2)), .second] [(.int (4 : Int32)), (.ref b1)])) (fun t k => XS.iloadN X30.her hx rfl (hb hby at_89) rfl k) ?_
    refine own_st (f' := (mkF m 91 #[.val (.int p0), .val (.int p1), .val (.int p2), .val (.int (4 : Int32)), .val (.int (p2.toInt8.toInt32)), .val (.ref b1), .val (.long (own_t0_73 p0 p1 p2)), .second] [(.int (1 : Int32)), (.int (4 : Int32)), (.ref b1)])) (fun t k => XS.iconst X30.her hx rfl (hb hby at_90) k) ?_
    refine own_st (f' := (mkF m 92 #[.val (.int p0), .val (.int p1), .val (.int p2), .val (.int (4 : Int32)), .val (.int (p2.toInt8.toInt32)), .val (.ref b1), .val (.long (own_t0_73 p0 p1 p2)), .second] [(.int (5 : Int32)), (.ref b1)])) (fun t k => XS.iadd X30.her hx rfl (hb hby at_91) rfl k) ?_
    refine own_st (f' := (mkF m 94 #[.val (.int p0), .val (.int p1), .val (.int p2), .val (.int (4 : Int32)), .val (.int (p2.toInt8.toInt32)), .val (.ref b1), .val (.long (own_t0_73 p0 p1 p2)), .second] [(.long (own_t0_73 p0 p1 p2)), (.int (5 : Int32)), (.ref b1)])) (fun t k => XS.lload X30.her hx rfl (hb hby at_92) rfl k) ?_
    refine own_ldcL X30 hx hZ hown (own_w4 hw) (hb hby at_94) ?_
    refine own_st (f' := (mkF m 98 #[.val (.int p0), .val (.int p1), .val (.int p2), .val (.int (4 : Int32)), .val (.int (p2.toInt8.toInt32)), .val (.ref b1), .val (.long (own_t0_73 p0 p1 p2)), .second] [(.long ((own_t0_73 p0 p1 p2) / (65536 : Int64))), (.int (5 : Int32)), (.ref b1)])) (fun t k => XS.ldiv X30.her hx rfl (hb hby at_97) rfl (by decide) k) ?_
    refine own_ldcL X30 hx hZ hown (own_w5 hw) (hb hby at_98) ?_
    refine own_lrem X30 hx (hb hby at_101) (by decide) ?_
    refine own_st (f' := (mkF m 103 #[.val (.int p0), .val (.int p1), .val (.int p2), .val (.int (4 : Int32)), .val (.int (p2.toInt8.toInt32)), .val (.ref b1), .val (.long (own_t0_73 p0 p1 p2)), .second] [(.int ((((own_t0_73 p0 p1 p2) / (65536 : Int64)) % (256 : Int64)).toInt32)), (.int (5 : Int32)), (.ref b1)])) (fun t k => XS.l2i X30.her hx rfl (hb hby at_102) rfl k) ?_
    refine own_st (f' := (mkF m 104 #[.val (.int p0), .val (.int p1), .val (.int p2), .val (.int (4 : Int32)), .val (.int (p2.toInt8.toInt32)), .val (.ref b1), .val (.long (own_t0_73 p0 p1 p2)), .second] [(.int (((((own_t0_73 p0 p1 p2) / (65536 : Int64)) % (256 : Int64)).toInt32).toInt8.toInt32)), (.int (5 : Int32)), (.ref b1)])) (fun t k => XS.i2b X30.her hx rfl (hb hby at_103) rfl k) ?_
    refine own_bstore X30 hx hZ B30 (by decide) (by show 5 < 8; decide) (hb hby at_104) ga_b1 (Or.inr q1) ?_
    intro T31 h31 X31 K31 W31 B31
    rw [show ((((((own_t0_73 p0 p1 p2) / (65536 : Int64)) % (256 : Int64)).toInt32).toInt8.toInt32)).toInt8.toInt32 = (((((own_t0_73 p0 p1 p2) / (65536 : Int64)) % (256 : Int64)).toInt32).toInt8.toInt32) from own_b2 _] at B31
    replace B31 : own_B Z h31 b1 [(p2.toInt8.toInt32), (p2.toInt8.toInt32), (p2.toInt8.toInt32), (p2.toInt8.toInt32), ((((own_t0_73 p0 p1 p2) / (16777216 : Int64)).toInt32).toInt8.toInt32), (((((own_t0_73 p0 p1 p2) / (65536 : Int64)) % (256 : Int64)).toInt32).toInt8.toInt32), (p2.toInt8.toInt32), (p2.toInt8.toInt32)] := B31
    have Zn31 : n0 ≤ h31.size := Nat.le_trans Zn30 K31.1
    refine own_st (f' := (mkF m 107 #[.val (.int p0), .val (.int p1), .val (.int p2), .val (.int (4 : Int32)), .val (.int (p2.toInt8.toInt32)), .val (.ref b1), .val (.long (own_t0_73 p0 p1 p2)), .second] [(.ref b1)])) (fun t k => XS.aload X31.her hx rfl (hb hby at_105) rfl rfl k) ?_
    refine own_st (f' := (mkF m 108 #[.val (.int p0), .val (.int p1), .val (.int p2), .val (.int (4 : Int32)), .val (.int (p2.toInt8.toInt32)), .val (.ref b1), .val (.long (own_t0_73 p0 p1 p2)), .second] [(.int (4 : Int32)), (.ref b1)])) (fun t k => XS.iloadN X31.her hx rfl (hb hby at_107) rfl k) ?_
    refine own_st (f' := (mkF m 109 #[.val (.int p0), .val (.int p1), .val (.int p2), .val (.int (4 : Int32)), .val (.int (p2.toInt8.toInt32)), .val (.ref b1), .val (.long (own_t0_73 p0 p1 p2)), .second] [(.int (2 : Int32)), (.int (4 : Int32)), (.ref b1)])) (fun t k => XS.iconst X31.her hx rfl (hb hby at_108) k) ?_
    refine own_st (f' := (mkF m 110 #[.val (.int p0), .val (.int p1), .val (.int p2), .val (.int (4 : Int32)), .val (.int (p2.toInt8.toInt32)), .val (.ref b1), .val (.long (own_t0_73 p0 p1 p2)), .second] [(.int (6 : Int32)), (.ref b1)])) (fun t k => XS.iadd X31.her hx rfl (hb hby at_109) rfl k) ?_
    refine own_st (f' := (mkF m 112 #[.val (.int p0), .val (.int p1), .val (.int p2), .val (.int (4 : Int32)), .val (.int (p2.toInt8.toInt32)), .val (.ref b1), .val (.long (own_t0_73 p0 p1 p2)), .second] [(.long (own_t0_73 p0 p1 p2)), (.int (6 : Int32)), (.ref b1)])) (fun t k => XS.lload X31.her hx rfl (hb hby at_110) rfl k) ?_
    refine own_ldcL X31 hx hZ hown (own_w5 hw) (hb hby at_112) ?_
    refine own_st (f' := (mkF m 116 #[.val (.int p0), .val (.int p1), .val (.int p2), .val (.int (4 : Int32)), .val (.int (p2.toInt8.toInt32)), .val (.ref b1), .val (.long (own_t0_73 p0 p1 p2)), .second] [(.long ((own_t0_73 p0 p1 p2) / (256 : Int64))), (.int (6 : Int32)), (.ref b1)])) (fun t k => XS.ldiv X31.her hx rfl (hb hby at_115) rfl (by decide) k) ?_
    refine own_ldcL X31 hx hZ hown (own_w5 hw) (hb hby at_116) ?_
    refine own_lrem X31 hx (hb hby at_119) (by decide) ?_
    refine own_st (f' := (mkF m 121 #[.val (.int p0), .val (.int p1), .val (.int p2), .val (.int (4 : Int32)), .val (.int (p2.toInt8.toInt32)), .val (.ref b1), .val (.long (own_t0_73 p0 p1 p2)), .second] [(.int ((((own_t0_73 p0 p1 p2) / (256 : Int64)) % (256 : Int64)).toInt32)), (.int (6 : Int32)), (.ref b1)])) (fun t k => XS.l2i X31.her hx rfl (hb hby at_120) rfl k) ?_
    refine own_st (f' := (mkF m 122 #[.val (.int p0), .val (.int p1), .val (.int p2), .val (.int (4 : Int32)), .val (.int (p2.toInt8.toInt32)), .val (.ref b1), .val (.long (own_t0_73 p0 p1 p2)), .second] [(.int (((((own_t0_73 p0 p1 p2) / (256 : Int64)) % (256 : Int64)).toInt32).toInt8.toInt32)), (.int (6 : Int32)), (.ref b1)])) (fun t k => XS.i2b X31.her hx rfl (hb hby at_121) rfl k) ?_
    refine own_bstore X31 hx hZ B31 (by decide) (by show 6 < 8; decide) (hb hby at_122) ga_b1 (Or.inr q1) ?_
    intro T32 h32 X32 K32 W32 B32
    rw [show ((((((own_t0_73 p0 p1 p2) / (256 : Int64)) % (256 : Int64)).toInt32).toInt8.toInt32)).toInt8.toInt32 = (((((own_t0_73 p0 p1 p2) / (256 : Int64)) % (256 : Int64)).toInt32).toInt8.toInt32) from own_b2 _] at B32
    replace B32 : own_B Z h32 b1 [(p2.toInt8.toInt32), (p2.toInt8.toInt32), (p2.toInt8.toInt32), (p2.toInt8.toInt32), ((((own_t0_73 p0 p1 p2) / (16777216 : Int64)).toInt32).toInt8.toInt32), (((((own_t0_73 p0 p1 p2) / (65536 : Int64)) % (256 : Int64)).toInt32).toInt8.toInt32), (((((own_t0_73 p0 p1 p2) / (256 : Int64)) % (256 : Int64)).toInt32).toInt8.toInt32), (p2.toInt8.toInt32)] := B32
    have Zn32 : n0 ≤ h32.size := Nat.le_trans Zn31 K32.1
    refine own_st (f' := (mkF m 125 #[.val (.int p0), .val (.int p1), .val (.int p2), .val (.int (4 : Int32)), .val (.int (p2.toInt8.toInt32)), .val (.ref b1), .val (.long (own_t0_73 p0 p1 p2)), .second] [(.ref b1)])) (fun t k => XS.aload X32.her hx rfl (hb hby at_123) rfl rfl k) ?_
    refine own_st (f' := (mkF m 126 #[.val (.int p0), .val (.int p1), .val (.int p2), .val (.int (4 : Int32)), .val (.int (p2.toInt8.toInt32)), .val (.ref b1), .val (.long (own_t0_73 p0 p1 p2)), .second] [(.int (4 : Int32)), (.ref b1)])) (fun t k => XS.iloadN X32.her hx rfl (hb hby at_125) rfl k) ?_
    refine own_st (f' := (mkF m 127 #[.val (.int p0), .val (.int p1), .val (.int p2), .val (.int (4 : Int32)), .val (.int (p2.toInt8.toInt32)), .val (.ref b1), .val (.long (own_t0_73 p0 p1 p2)), .second] [(.int (3 : Int32)), (.int (4 : Int32)), (.ref b1)])) (fun t k => XS.iconst X32.her hx rfl (hb hby at_126) k) ?_
    refine own_st (f' := (mkF m 128 #[.val (.int p0), .val (.int p1), .val (.int p2), .val (.int (4 : Int32)), .val (.int (p2.toInt8.toInt32)), .val (.ref b1), .val (.long (own_t0_73 p0 p1 p2)), .second] [(.int (7 : Int32)), (.ref b1)])) (fun t k => XS.iadd X32.her hx rfl (hb hby at_127) rfl k) ?_
    refine own_st (f' := (mkF m 130 #[.val (.int p0), .val (.int p1), .val (.int p2), .val (.int (4 : Int32)), .val (.int (p2.toInt8.toInt32)), .val (.ref b1), .val (.long (own_t0_73 p0 p1 p2)), .second] [(.long (own_t0_73 p0 p1 p2)), (.int (7 : Int32)), (.ref b1)])) (fun t k => XS.lload X32.her hx rfl (hb hby at_128) rfl k) ?_
    refine own_ldcL X32 hx hZ hown (own_w5 hw) (hb hby at_130) ?_
    refine own_lrem X32 hx (hb hby at_133) (by decide) ?_
    refine own_st (f' := (mkF m 135 #[.val (.int p0), .val (.int p1), .val (.int p2), .val (.int (4 : Int32)), .val (.int (p2.toInt8.toInt32)), .val (.ref b1), .val (.long (own_t0_73 p0 p1 p2)), .second] [(.int (((own_t0_73 p0 p1 p2) % (256 : Int64)).toInt32)), (.int (7 : Int32)), (.ref b1)])) (fun t k => XS.l2i X32.her hx rfl (hb hby at_134) rfl k) ?_
    refine own_st (f' := (mkF m 136 #[.val (.int p0), .val (.int p1), .val (.int p2), .val (.int (4 : Int32)), .val (.int (p2.toInt8.toInt32)), .val (.ref b1), .val (.long (own_t0_73 p0 p1 p2)), .second] [(.int ((((own_t0_73 p0 p1 p2) % (256 : Int64)).toInt32).toInt8.toInt32)), (.int (7 : Int32)), (.ref b1)])) (fun t k => XS.i2b X32.her hx rfl (hb hby at_135) rfl k) ?_
    refine own_bstore X32 hx hZ B32 (by decide) (by show 7 < 8; decide) (hb hby at_136) ga_b1 (Or.inr q1) ?_
    intro T33 h33 X33 K33 W33 B33
    rw [show (((((own_t0_73 p0 p1 p2) % (256 : Int64)).toInt32).toInt8.toInt32)).toInt8.toInt32 = ((((own_t0_73 p0 p1 p2) % (256 : Int64)).toInt32).toInt8.toInt32) from own_b2 _] at B33
    replace B33 : own_B Z h33 b1 [(p2.toInt8.toInt32), (p2.toInt8.toInt32), (p2.toInt8.toInt32), (p2.toInt8.toInt32), ((((own_t0_73 p0 p1 p2) / (16777216 : Int64)).toInt32).toInt8.toInt32), (((((own_t0_73 p0 p1 p2) / (65536 : Int64)) % (256 : Int64)).toInt32).toInt8.toInt32), (((((own_t0_73 p0 p1 p2) / (256 : Int64)) % (256 : Int64)).toInt32).toInt8.toInt32), ((((own_t0_73 p0 p1 p2) % (256 : Int64)).toInt32).toInt8.toInt32)] := B33
    have Zn33 : n0 ≤ h33.size := Nat.le_trans Zn32 K33.1
    refine own_st (f' := (mkF m 139 #[.val (.int p0), .val (.int p1), .val (.int p2), .val (.int (4 : Int32)), .val (.int (p2.toInt8.toInt32)), .val (.ref b1), .val (.long (own_t0_73 p0 p1 p2)), .second] [(.ref b1)])) (fun t k => XS.aload X33.her hx rfl (hb hby at_137) rfl rfl k) ?_
    refine own_st (f' := (mkF m 140 #[.val (.int p0), .val (.int p1), .val (.int p2), .val (.int (4 : Int32)), .val (.int (p2.toInt8.toInt32)), .val (.ref b1), .val (.long (own_t0_73 p0 p1 p2)), .second] [(.int (4 : Int32)), (.ref b1)])) (fun t k => XS.iloadN X33.her hx rfl (hb hby at_139) rfl k) ?_
    refine own_callSP (y := (⟨"com/example/luoshu/luoshu/Words", "read", "([BI)I"⟩ : MethodName)) (W := 0) [(.ref b1), (.int (4 : Int32))] X33 hx hZ hown (own_w6 hw) (own_w7 hw) (own_w8 hw) (own_w9 hw) (by decide) (own_c1 l Z a0 hw h33 n0 Zn33 b1 (4 : Int32) ((((own_t0_73 p0 p1 p2) / (16777216 : Int64)).toInt32).toInt8.toInt32) (((((own_t0_73 p0 p1 p2) / (65536 : Int64)) % (256 : Int64)).toInt32).toInt8.toInt32) (((((own_t0_73 p0 p1 p2) / (256 : Int64)) % (256 : Int64)).toInt32).toInt8.toInt32) ((((own_t0_73 p0 p1 p2) % (256 : Int64)).toInt32).toInt8.toInt32) _ B33 (by decide) rfl (by decide) rfl (by decide) rfl (by decide) rfl) (by decide) (by decide) (by decide) (by decide) (by rw [hml]; rfl) own_pd0 rfl rfl (Nat.le_of_eq rfl) (hb hby at_140) ?_
    intro T34 X34
    show own_G p e below _ T34 (mkF m 143 #[.val (.int p0), .val (.int p1), .val (.int p2), .val (.int (4 : Int32)), .val (.int (p2.toInt8.toInt32)), .val (.ref b1), .val (.long (own_t0_73 p0 p1 p2)), .second] [(.int (own_F1 (4 : Int32) ((((own_t0_73 p0 p1 p2) / (16777216 : Int64)).toInt32).toInt8.toInt32) (((((own_t0_73 p0 p1 p2) / (65536 : Int64)) % (256 : Int64)).toInt32).toInt8.toInt32) (((((own_t0_73 p0 p1 p2) / (256 : Int64)) % (256 : Int64)).toInt32).toInt8.toInt32) ((((own_t0_73 p0 p1 p2) % (256 : Int64)).toInt32).toInt8.toInt32)))])
    refine own_st (f' := (mkF m 144 #[.val (.int p0), .val (.int p1), .val (.int p2), .val (.int (4 : Int32)), .val (.int (p2.toInt8.toInt32)), .val (.ref b1), .val (.long (own_t0_73 p0 p1 p2)), .second] [(.int p0), (.int (own_F1 (4 : Int32) ((((own_t0_73 p0 p1 p2) / (16777216 : Int64)).toInt32).toInt8.toInt32) (((((own_t0_73 p0 p1 p2) / (65536 : Int64)) % (256 : Int64)).toInt32).toInt8.toInt32) (((((own_t0_73 p0 p1 p2) / (256 : Int64)) % (256 : Int64)).toInt32).toInt8.toInt32) ((((own_t0_73 p0 p1 p2) % (256 : Int64)).toInt32).toInt8.toInt32)))])) (fun t k => XS.iloadN X34.her hx rfl (hb hby at_143) rfl k) ?_
    refine own_st (f' := (mkF m 147 #[.val (.int p0), .val (.int p1), .val (.int p2), .val (.int (4 : Int32)), .val (.int (p2.toInt8.toInt32)), .val (.ref b1), .val (.long (own_t0_73 p0 p1 p2)), .second] [])) (fun t k => XS.icmpNo X34.her hx rfl (hb hby at_144) rfl (teq (own_read p0 p1 p2 _ : (own_F1 (4 : Int32) ((((own_t0_73 p0 p1 p2) / (16777216 : Int64)).toInt32).toInt8.toInt32) (((((own_t0_73 p0 p1 p2) / (65536 : Int64)) % (256 : Int64)).toInt32).toInt8.toInt32) (((((own_t0_73 p0 p1 p2) / (256 : Int64)) % (256 : Int64)).toInt32).toInt8.toInt32) ((((own_t0_73 p0 p1 p2) % (256 : Int64)).toInt32).toInt8.toInt32)) = p0)).2 k) ?_
    refine own_st (f' := (mkF m 148 #[.val (.int p0), .val (.int p1), .val (.int p2), .val (.int (4 : Int32)), .val (.int (p2.toInt8.toInt32)), .val (.ref b1), .val (.long (own_t0_73 p0 p1 p2)), .second] [(.int (1 : Int32))])) (fun t k => XS.iconst X34.her hx rfl (hb hby at_147) k) ?_
    refine own_st (f' := (mkF m 152 #[.val (.int p0), .val (.int p1), .val (.int p2), .val (.int (4 : Int32)), .val (.int (p2.toInt8.toInt32)), .val (.ref b1), .val (.long (own_t0_73 p0 p1 p2)), .second] [(.int (1 : Int32))])) (fun t k => XS.goto X34.her hx rfl (pc0 := 148) (pc' := 152) rfl (hb hby at_148) (by decide) (by decide) k) ?_
    refine own_retN (t := .boolean) X34 hx hret hlk (by simp) (hb hby at_152) (by first | decide | omega) (by first | decide | omega) ?_
    exact congrArg (fun q => some (Value.int q)) (by decide)
set_option maxRecDepth 65536 in
set_option maxHeartbeats 40000000 in
theorem own_comes {Post : Tables → Env → Array Value → State → Outcome → State → Prop} (hpost : ∀ tb e args s v u, (limb_1_1.after args s (.returned v) u = true ∧ limb_1_2.after args s (.returned v) u = true) → FrameEnd s (.returned v) u (Jvm.fieldLocs frame_1_writes args s ++ Jvm.arrayLocs frame_1_arrays args s ++ Jvm.staticLocs frame_1_statics s) 16 128 → Post tb e args s (.returned v) u) :
    ArmFor flags0 classFile x code maxLocals ret World_1 tables_1 room_1 Calls_1 rest_1 Pre_1 Post := by
  intro l hfl _ _ p e ha hc hk s m args below hf hA hF happ hP
  obtain ⟨hcalls, hrest, hpre⟩ := hP
  obtain ⟨-, -, -, hnamed, -, -, -, hat⟩ := (Spec.applies_iff hf).mp happ
  obtain ⟨hg, hn⟩ := and_e (Cond.before_iff.mp (show (Jvm.Cond.and given_1 narrow_1).before args s = true from hpre))
  obtain ⟨g35, g36⟩ := and_e hg
  obtain ⟨g37, g38⟩ := and_e g36
  obtain ⟨g39, g40⟩ := and_e g38
  obtain ⟨w0, w1, w2, rfl⟩ : ∃ w0 w1 w2 : Value, args = #[w0, w1, w2] := by
    have hs : args.size = 3 := by simpa [Cond.value, given_1] using g35
    obtain ⟨L⟩ := args
    match L, hs with
    | [w0, w1, w2], _ => exact ⟨w0, w1, w2, rfl⟩
  have hw := fun d (hd : d ∈ tables_1) => atoms_spec (ws := Jvm.Cond.code x code maxLocals ret :: tables_1) hat d (List.mem_cons_of_mem _ hd)
  obtain ⟨i0, ei0⟩ := is_v g37
  obtain rfl : w0 = (.int i0) := Option.some.inj ei0
  obtain ⟨i1, ei1⟩ := is_v g39
  obtain rfl : w1 = (.int i1) := Option.some.inj ei1
  obtain ⟨i2, ei2⟩ := is_v g40
  obtain rfl : w2 = (.int i2) := Option.some.inj ei2
  obtain ⟨n, o, h1, h2, h3, v, L, rfl, ⟨N, -, hv⟩, hq⟩ := own_c0 l s _ hw s.heap s.heap.size (Nat.le_refl _) i0 i1 i2 p e ha hc hk s m _ below hf ((Spec.applies_iff_loose hf).mp happ).1 ⟨rfl, State.Warmed39.refl s, rfl⟩ trivial
  obtain rfl : v = some (.int 1) := hv
  refine ⟨n, _, h1, h2, h3, hpost _ _ _ _ _ _ ⟨Cond.after_iff.mpr rfl, Cond.after_iff.mpr (eq_i res_at (Term.int_eval (1)) rfl)⟩ ⟨hq.1, hq.2.1, (hq.2.2.sift fun y hy => Or.inr (N y hy)).mono (by decide) (by decide)⟩⟩
theorem main_1_1 : Claimed_1_1 := own_comes fun _ _ _ _ _ _ h hF => ⟨h.1, hF⟩
theorem main_1_2 : Claimed_1_2 := own_comes fun _ _ _ _ _ _ h hF => ⟨h.2, hF⟩
end Jvm.Pilot.@@N@@
namespace Jvm.Pilot.@@N@@
open Jvm Jvm.ClassFile Sem Op Lib Jvm.Free Jvm.Stand Jvm.Pilot.@@N@@.Jvm.D
/-! MADE BY PROGRAM (witnessworld.py) out of the Statement's table words and the real class files: 9 classes; the members and pool entries that the words name. The judged class is class 1, her method 1. -/
namespace start1
open Jvm.ClassFile
def u (s : String) : CpInfo := .utf8 (stringToUtf16 s)
/-- a pool by its gaps: so many unusable entries, then the entry; so many at the end -/
def gap : Nat → List CpInfo → List CpInfo
  | 0, r => r
  | n + 1, r => .unusable :: gap n r
def poolList (es : List (Nat × CpInfo)) (last : Nat) : List CpInfo := es.foldr (fun e r => gap e.1 (e.2 :: r)) (gap last [])
def pool (es : List (Nat × CpInfo)) (last : Nat) : Array CpInfo := ⟨poolList es last⟩
def fileOf (pool : Array CpInfo) (this : Nat) (attrs : Array Attribute := #[]) (ms : Array MethodInfo := #[]) (fl : Nat := 33) (sup : Nat := 0) (ifs : Array Nat := #[]) (fds : Array FieldInfo := #[]) : ClassFile where
  minorVersion := 0
  majorVersion := 65
  constantPool := pool
  accessFlags := fl
  thisClass := this
  superClass := sup
  interfaces := ifs
  fields := fds
  methods := ms
  attributes := attrs
def plain (name : String) (sup : Option ClassId) : Class where
  name := name
  kind := .ordinary
  loader := none
  accessFlags := 33
  super := sup
  interfaces := #[]
  cf := none
  fields := #[]
  methods := #[]
  instanceTypes := #[]
  staticTypes := #[]
  resolved := #[]
  callSites := []
  init := .initialized
  statics := none
  mirror := none

def pool0 : Array CpInfo := pool [(5, u "<init>"), (0, u "()V"), (1, .class_ 10), (1, u "java/lang/Object")] 113

def k0m0 : Method := { name := "<init>", desc := "()V", sig := { parameters := [], returnType := none }, accessFlags := 1, code := none }
/-- java/lang/Object -/
def k0 : Class := { plain "java/lang/Object" none with
  accessFlags := 33
  interfaces := #[]
  cf := some (fileOf pool0 8 #[] #[{ accessFlags := 1, nameIndex := 5, descriptorIndex := 6, attributes := #[] }] 33 0 #[] #[])
  fields := #[]
  methods := #[k0m0]
  instanceTypes := #[]
  staticTypes := #[]
  resolved := Array.replicate 124 none
  statics := none }

def pool1 : Array CpInfo := pool [(2, .class_ 4), (1, u "java/lang/Object"), (0, u "<init>"), (0, u "()V"), (0, .integer 2147483647), (0, .long 4294967295), (1, .long 16777216), (1, .long 65536), (1, .long 256), (1, .methodref 17 18), (0, .class_ 19), (0, .nameAndType 20 21), (0, u "com/example/luoshu/luoshu/Words"), (0, u "read"), (0, u "([BI)I"), (0, .class_ 23), (0, u "com/example/luoshu/luoshu/WordsReadPinLaw"), (2, u "law"), (0, u "(III)Z")] 5

def k1m0 : Method := { name := "<init>", desc := "()V", sig := { parameters := [], returnType := none }, accessFlags := 2, code := none }
def k1c1 : Code := { maxStack := 6, maxLocals := 8, code := code, exceptionTable := #[], attributes := #[] }
def k1m1 : Method := { name := "law", desc := "(III)Z", sig := { parameters := [.int, .int, .int], returnType := some .boolean }, accessFlags := 9, code := some k1c1 }
/-- com/example/luoshu/luoshu/WordsReadPinLaw -/
def k1 : Class := { plain "com/example/luoshu/luoshu/WordsReadPinLaw" (some 0) with
  accessFlags := 49
  interfaces := #[]
  cf := some (fileOf pool1 22 #[] #[{ accessFlags := 2, nameIndex := 5, descriptorIndex := 6, attributes := #[] }, { accessFlags := 9, nameIndex := 26, descriptorIndex := 27, attributes := #[] }] 49 2 #[] #[])
  fields := #[]
  methods := #[k1m0, k1m1]
  instanceTypes := #[]
  staticTypes := #[]
  resolved := Array.replicate 33 none
  statics := none }

def pool2 : Array CpInfo := pool [(2, .class_ 4), (1, u "java/lang/Object"), (0, u "<init>"), (0, u "()V"), (0, .class_ 8), (0, u "com/example/luoshu/luoshu/Words"), (2, u "read"), (0, u "([BI)I")] 4

def k2m0 : Method := { name := "<init>", desc := "()V", sig := { parameters := [], returnType := none }, accessFlags := 2, code := none }
def k2c1 : Code := { maxStack := 4, maxLocals := 2, code := prog_26_method_2_code, exceptionTable := #[], attributes := #[] }
def k2m1 : Method := { name := "read", desc := "([BI)I", sig := { parameters := [(.array .byte), .int], returnType := some .int }, accessFlags := 8, code := some k2c1 }
/-- com/example/luoshu/luoshu/Words -/
def k2 : Class := { plain "com/example/luoshu/luoshu/Words" (some 0) with
  accessFlags := 48
  interfaces := #[]
  cf := some (fileOf pool2 7 #[] #[{ accessFlags := 2, nameIndex := 5, descriptorIndex := 6, attributes := #[] }, { accessFlags := 8, nameIndex := 11, descriptorIndex := 12, attributes := #[] }] 48 2 #[] #[])
  fields := #[]
  methods := #[k2m0, k2m1]
  instanceTypes := #[]
  staticTypes := #[]
  resolved := Array.replicate 17 none
  statics := none }

def pool3 : Array CpInfo := pool [(1, u "java/lang/Cloneable"), (0, .class_ 1), (0, u "java/lang/Object"), (0, .class_ 3)] 3

/-- java/lang/Cloneable -/
def k3 : Class := { plain "java/lang/Cloneable" (some 0) with
  accessFlags := 1537
  interfaces := #[]
  cf := some (fileOf pool3 2 #[] #[] 1537 4 #[] #[])
  fields := #[]
  methods := #[]
  instanceTypes := #[]
  staticTypes := #[]
  resolved := Array.replicate 8 none
  statics := none }

def pool4 : Array CpInfo := pool [(1, u "java/io/Serializable"), (0, .class_ 1), (0, u "java/lang/Object"), (0, .class_ 3)] 3

/-- java/io/Serializable -/
def k4 : Class := { plain "java/io/Serializable" (some 0) with
  accessFlags := 1537
  interfaces := #[]
  cf := some (fileOf pool4 2 #[] #[] 1537 4 #[] #[])
  fields := #[]
  methods := #[]
  instanceTypes := #[]
  staticTypes := #[]
  resolved := Array.replicate 8 none
  statics := none }

/-- the primitive byte -/
def k5 : Class := { plain "byte" none with kind := .primitive 'B', accessFlags := 0x411 }
/-- [B -/
def k6 : Class := { plain "[B" (some 0) with kind := .array 5 .byte, interfaces := #[3, 4], accessFlags := 1041 }

/-- the primitive int -/
def k7 : Class := { plain "int" none with kind := .primitive 'I', accessFlags := 0x411 }
/-- [I -/
def k8 : Class := { plain "[I" (some 0) with kind := .array 7 .int, interfaces := #[3, 4], accessFlags := 1041 }

def heap : Heap := #[]
def classes : Array Class := #[k0, k1, k2, k3, k4, k5, k6, k7, k8]
def interned : List (Array UInt16 × Addr) := []
def slotsUsed : Nat := 0
def theMethod : MethodId := ⟨1, 1⟩
def args0 : Array Value := #[.int 7, .int 3, .int 5]
def aboutOver (below : List Frame) : State where
  vm := { classes := classes, interned := interned.toArray }
  heap := heap
  slotsUsed := slotsUsed
  threads := #[{ frames := .invoking theMethod args0 :: below }]
def below0 : List Frame := [.native { method := ⟨0, 0⟩, args := #[] }]
def about1 : State := aboutOver below0
def p0 : Program := .bare "" "" ""
def e0 : Env := launch0.env 0 0 0
theorem w_frames : about1.frames = Frame.invoking theMethod args0 :: below0 := rfl
set_option maxRecDepth 65536 in
theorem w_args : argsFit about1.vm theMethod args0 = true := by decide +kernel
set_option maxRecDepth 65536 in
theorem w_heap : heapFits about1 = true := by decide +kernel
set_option maxRecDepth 65536 in
theorem w_runnable : about1.curStatus? = some .runnable := by decide +kernel
set_option maxRecDepth 65536 in
theorem w_alone : about1.alone = true := by decide +kernel
set_option maxRecDepth 65536 in
theorem w_named : about1.methodNamed? x = some theMethod := by decide +kernel
set_option maxRecDepth 65536 in
theorem w_hears : about1.hears theMethod below0 = true := by decide +kernel
set_option maxRecDepth 65536 in
theorem w_ripe : about1.ripe theMethod args0 below0 = true := by decide +kernel
theorem w_running : about1.status = .running := rfl
set_option maxRecDepth 65536 in
theorem w_room : about1.hasRoom e0.platform room_1 = true :=
  launch0.hasRoom_least _ room_1 (by decide +kernel) (by decide +kernel) (by decide +kernel) (by decide +kernel) (by decide +kernel) (by decide +kernel)
theorem allAtoms_all (ts : List Jvm.Cond) (a : Array Jvm.Value) (st : Jvm.State) : (allAtoms ts).before a st = ts.all (fun c => c.before a st) := by
  induction ts with
  | nil => rfl
  | cons c t ih =>
    show (Jvm.Cond.and c (allAtoms t)).before a st = _
    rw [Jvm.Cond.before_and, ih, List.all_cons]
def words1 : List Jvm.Cond := Jvm.Cond.code x code maxLocals ret :: tables_1
/-- a 'code' word, met by the world's own term for the bytes: nothing is compared byte by byte -/
theorem code_word {y : MethodName} {bytes : ByteArray} {mx : Nat} {rt : Option FieldType} {a : Array Value} {s : State} {m : MethodId} {meth : Method} {c : Code} (h1 : s.methodNamed? y = some m) (h2 : s.vm.method? m = some meth) (h3 : meth.code = some c) (h4 : c.code = bytes)
    (h5 : (c.maxLocals == mx && c.exceptionTable.isEmpty && decide (c.maxStack ≤ mostOperands) && decide (meth.sig.returnType = rt) && !meth.locks && decide (parseMethodDescriptor y.desc = some meth.sig)) = true) : (Jvm.Cond.code y bytes mx rt).before a s = true := by
  simp only [Bool.and_eq_true, beq_iff_eq, Bool.not_eq_true', decide_eq_true_eq] at h5
  obtain ⟨⟨⟨⟨⟨g1, g2⟩, g3⟩, g4⟩, g5⟩, g6⟩ := h5
  simp [Cond.before, Cond.holds, Cond.value, h1, h2, h3, h4, g1, g2, g3, g4, g5, g6]
def isCode : Jvm.Cond → Bool
  | .code _ _ _ _ => true
  | _ => false
theorem all_split {L : List Jvm.Cond} {P : Jvm.Cond → Bool} (h1 : L.all (fun c => isCode c || P c) = true) (h2 : ∀ c ∈ L.filter isCode, P c = true) : L.all P = true := by
  refine List.all_eq_true.mpr fun c hc => ?_
  have h := List.all_eq_true.mp h1 c hc
  rcases Bool.eq_false_or_eq_true (isCode c) with hi | hi
  · exact h2 c (List.mem_filter.mpr ⟨hc, hi⟩)
  · simpa [hi] using h
set_option maxRecDepth 65536 in
theorem w_c0 : (Jvm.Cond.code x code maxLocals ret).before args0 about1 = true := code_word (m := ⟨1, 1⟩) (meth := k1m1) (c := k1c1) (by decide +kernel) rfl rfl rfl (by decide +kernel)
set_option maxRecDepth 65536 in
theorem w_c1 : (Jvm.Cond.code ({ cls := "com/example/luoshu/luoshu/Words", name := "read", desc := "([BI)I" } : Jvm.MethodName) prog_26_method_2_code (2 : Nat) (Option.some Jvm.ClassFile.FieldType.int)).before args0 about1 = true := code_word (m := ⟨2, 1⟩) (meth := k2m1) (c := k2c1) (by decide +kernel) rfl rfl rfl (by decide +kernel)
def codes1 : List Jvm.Cond := [Jvm.Cond.code x code maxLocals ret, Jvm.Cond.code ({ cls := "com/example/luoshu/luoshu/Words", name := "read", desc := "([BI)I" } : Jvm.MethodName) prog_26_method_2_code (2 : Nat) (Option.some Jvm.ClassFile.FieldType.int)]
set_option maxRecDepth 65536 in
theorem codes_eq : words1.filter isCode = codes1 := rfl
theorem w_codes : ∀ c ∈ words1.filter isCode, c.before args0 about1 = true := by
  rw [codes_eq]
  intro c hc
  simp only [codes1, List.mem_cons, List.not_mem_nil, or_false] at hc
  rcases hc with rfl | rfl
  · exact w_c0
  · exact w_c1
set_option maxRecDepth 65536 in
theorem w_t1 : words1.all (fun c => isCode c || c.before args0 about1) = true := by decide +kernel
theorem w_tables : (allAtoms (Jvm.Cond.code x code maxLocals ret :: tables_1)).before args0 about1 = true := by
  rw [allAtoms_all]
  show words1.all (fun c => c.before args0 about1) = true
  refine all_split ?_ w_codes
  rw [w_t1]
set_option maxRecDepth 65536 in
theorem w_case : (Jvm.Cond.and given_1 narrow_1).before args0 about1 = true := by decide +kernel
theorem w_applies : (headSpec (Jvm.Cond.code x code maxLocals ret :: tables_1) room_1).applies x e0.platform about1 = true :=
  (Spec.applies_iff w_frames).mpr ⟨w_running, w_runnable, w_alone, w_named, w_hears, w_ripe, w_room, w_tables⟩
theorem atStart : AtStart classFile x code maxLocals ret World_1 tables_1 room_1 Calls_1 rest_1 Pre_1 launch0 p0 e0 about1 theMethod args0 below0 :=
  ⟨lists_1, trivial, launch0.admits_env _ _ _, launch0.least_env, fairChoices_fair.cas, fairChoices_fair.clock, w_frames, w_args, w_heap, w_applies, trivial, trivial, w_case⟩
end start1
theorem witness_1 : WitnessClaimed_1 := ⟨start1.p0, start1.e0, start1.about1, start1.theMethod, start1.args0, start1.below0, start1.atStart⟩
end Jvm.Pilot.@@N@@
