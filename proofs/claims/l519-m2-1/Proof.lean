import JvmDerived
import JvmDerived.Pilot.@@N@@Statement
import JvmDerived.Pilot.@@N@@Code
set_option linter.unusedVariables false
set_option linter.unusedSimpArgs false
@@BLOCK:NumsL.lean.txt@@
namespace Jvm.Pilot.@@N@@
open Jvm Jvm.ClassFile Sem Op Lib Jvm.Free Jvm.Stand Jvm.LawKit Jvm.RoadKit Bundle Jvm.Pilot.@@N@@.Jvm.D
section Own
variable {p : Program} {l : Launch} {e : Env} {R : Room} {s : State} {m : MethodId} {args : Array Value} {below : List Frame} {meth : Method} {c : Code} {T T' : State} {locs : List Loc} {cells slots : Nat} {Z : State} {h h' h0 : Heap} {n0 : Nat} {ws : List Addr} {a0 : Array Value}
/-- what is still to be shown: from this frame the run ends as G says -/
def own_G (p : Program) (e : Env) (below : List Frame) (G : Outcome → State → Prop) (T : State) (f : JFrame) : Prop :=
  ∃ s₂ o, Steps p.tables e below (T.setTop f) s₂ ∧ s₂.status = .running ∧ Ended s₂ below o ∧ G o s₂
theorem own_st {G : Outcome → State → Prop} {f f' : JFrame} (q : ∀ t, Steps p.tables e below (T'.setTop f') t → Steps p.tables e below (T.setTop f) t) (k : own_G p e below G T' f') : own_G p e below G T f := by
  obtain ⟨a, o, r1, r2⟩ := k
  exact ⟨a, o, q a r1, r2⟩
theorem own_cast {G : Outcome → State → Prop} {f f' : JFrame} (q : f = f') (k : own_G p e below G T f') : own_G p e below G T f := q ▸ k
def own_D (s : State) (Q : Option Value → Heap → List Loc → Prop) (C S : Nat) (o : Outcome) (U : State) : Prop := ∃ v L, o = .returned v ∧ Q v U.heap L ∧ FrameEnd s o U L C S
def own_Q (n0 : Nat) (h0 : Heap) (ws : List Addr) (P : Option Value → Heap → Prop) (v : Option Value) (h : Heap) (L : List Loc) : Prop := Fr n0 L ∧ Keep h0 h ws ∧ P v h
def own_M (l : Launch) (y : MethodName) (code : ByteArray) (maxL : Nat) (ret : Option FieldType) (wd : List Jvm.Cond) (rm : Room) (Z : State) (as : Array Value) (h0 : Heap) (Q : Option Value → Heap → List Loc → Prop) : Prop :=
  MetFree l y (head1 (Jvm.Cond.code y code maxL ret :: wd) rm) (fun a U => a = as ∧ Z.Warmed39 U.vm ∧ U.heap = h0) (fun _ _ _ _ _ => True) (fun _ U o U' => ∃ v L, o = .returned v ∧ Q v U'.heap L ∧ FrameEnd U o U' L rm.cells rm.slots)
/-- where the walk stands: nothing old but ws was written -/
def own_S (p : Program) (l : Launch) (e : Env) (R : Room) (s : State) (m : MethodId) (args : Array Value) (below : List Frame) (meth : Method) (c : Code) (n0 : Nat) (h0 : Heap) (ws : List Addr) (T : State) (h : Heap) (cells slots : Nat) : Prop :=
  (∃ locs, Stand p l e R s m args below meth c T locs cells slots ∧ Fr n0 locs) ∧ T.heap = h ∧ Keep h0 h ws
theorem own_S.her (X : own_S p l e R s m args below meth c n0 h0 ws T h cells slots) : At T m c below := by
  obtain ⟨⟨_, X, _⟩, _⟩ := X; exact X.here
theorem own_body {y : MethodName} {code : ByteArray} {maxL : Nat} {ret : Option FieldType} {wd : List Jvm.Cond} {rm : Room} {as : Array Value} {P : Option Value → Heap → Prop} (hy : plainFor y = true)
    (B : ∀ (p : Program) (e : Env) (s : State) (m : MethodId) (below : List Frame) (meth : Method) (c : Code) (T : State), own_S p l e rm s m as below meth c n0 h0 ws T h0 0 0 → p.tables.exec = Jvm.exec → c.code = code → c.maxLocals = maxL → s.vm.findClass y.cls = some m.cls → meth.name = y.name → meth.sig.returnType = ret → meth.locks = false → Z.Warmed39 s.vm →
      own_G p e below (own_D s (own_Q n0 h0 ws P) rm.cells rm.slots) T (entryFrame m as maxL)) :
    own_M l y code maxL ret wd rm Z as h0 (own_Q n0 h0 ws P) := by
  refine MetFree.of_bodySF hy hisR ?_
  intro p e s m args below meth c s₁ Bd hml0 hP hK
  obtain ⟨rfl, hZ, hh⟩ := hP
  exact B p e s m below meth c s₁ ⟨⟨[], Stand.of_body Bd, Fr.nil n0⟩, by rw [← hh, Bd.state]; rfl, Keep.refl _ _⟩ Bd.exec Bd.bytes hml0 (findClass_of_methodNamed Bd.named) (name_of_methodNamed Bd.named Bd.method).1 Bd.returns Bd.notSynchronized hZ
section Leave
variable {P : Option Value → Heap → Prop} {pc : Nat} {Ls : Array Slot} {rest : List Value} {C S : Nat}
theorem own_retN {t : FieldType} {z : Int32} (X : own_S p l e R s m args below meth c n0 h0 ws T h cells slots) (hx : p.tables.exec = Jvm.exec) (hret : meth.sig.returnType = some t) (hlk : meth.locks = false) (ht : t = .boolean ∨ t = .byte ∨ t = .char ∨ t = .short) (hd : decode c.code pc = .ok (.ireturn, 1)) (hc : cells ≤ C) (hs : slots ≤ S) (hP : P (some (.int (nar t z))) h) :
    own_G p e below (own_D s (own_Q n0 h0 ws P) C S) T (mkF m pc Ls (.int z :: rest)) := by
  obtain ⟨⟨locs, X, N⟩, rfl, K⟩ := X
  obtain ⟨fs, hr, hrun, hended, hW, hsame⟩ := X.leave (v := some (.int (nar t z))) (fun h => by rw [hret] at h; cases h) hlk
  exact ⟨_, _, retN X hx hret ht hd hr, hrun, hended, _, _, rfl, ⟨N, K, hP⟩, ⟨_, rfl⟩, hW, hsame.mono hc hs⟩
theorem own_retI {z : Int32} (X : own_S p l e R s m args below meth c n0 h0 ws T h cells slots) (hx : p.tables.exec = Jvm.exec) (hret : meth.sig.returnType = some .int) (hlk : meth.locks = false) (hd : decode c.code pc = .ok (.ireturn, 1)) (hc : cells ≤ C) (hs : slots ≤ S) (hP : P (some (.int z)) h) :
    own_G p e below (own_D s (own_Q n0 h0 ws P) C S) T (mkF m pc Ls (.int z :: rest)) := by
  obtain ⟨⟨locs, X, N⟩, rfl, K⟩ := X
  obtain ⟨fs, hr, hrun, hended, hW, hsame⟩ := X.leave (v := some (.int z)) (fun h => by rw [hret] at h; cases h) hlk
  exact ⟨_, _, retOut X hx hret rfl (Or.inl ⟨rfl, Or.inl rfl, _, rfl⟩) hd hr, hrun, hended, _, _, rfl, ⟨N, K, hP⟩, ⟨_, rfl⟩, hW, hsame.mono hc hs⟩
theorem own_retL {z : Int64} (X : own_S p l e R s m args below meth c n0 h0 ws T h cells slots) (hx : p.tables.exec = Jvm.exec) (hret : meth.sig.returnType = some .long) (hlk : meth.locks = false) (hd : decode c.code pc = .ok (.lreturn, 1)) (hc : cells ≤ C) (hs : slots ≤ S) (hP : P (some (.long z)) h) :
    own_G p e below (own_D s (own_Q n0 h0 ws P) C S) T (mkF m pc Ls (.long z :: rest)) := by
  obtain ⟨⟨locs, X, N⟩, rfl, K⟩ := X
  obtain ⟨fs, hr, hrun, hended, hW, hsame⟩ := X.leave (v := some (.long z)) (fun h => by rw [hret] at h; cases h) hlk
  exact ⟨_, _, retOut X hx hret rfl (Or.inr (Or.inl ⟨rfl, rfl, _, rfl⟩)) hd hr, hrun, hended, _, _, rfl, ⟨N, K, hP⟩, ⟨_, rfl⟩, hW, hsame.mono hc hs⟩
theorem own_retA {t : FieldType} {z : Addr} (X : own_S p l e R s m args below meth c n0 h0 ws T h cells slots) (hx : p.tables.exec = Jvm.exec) (hret : meth.sig.returnType = some t) (hlk : meth.locks = false) (ht : t.isReference = true) (hn : narrow t (.ref z) = .ref z) (hd : decode c.code pc = .ok (.areturn, 1)) (hc : cells ≤ C) (hs : slots ≤ S) (hP : P (some (.ref z)) h) :
    own_G p e below (own_D s (own_Q n0 h0 ws P) C S) T (mkF m pc Ls (.ref z :: rest)) := by
  obtain ⟨⟨locs, X, N⟩, rfl, K⟩ := X
  obtain ⟨fs, hr, hrun, hended, hW, hsame⟩ := X.leave (v := some (.ref z)) (fun h => by rw [hret] at h; cases h) hlk
  exact ⟨_, _, retOut X hx hret hn (Or.inr (Or.inr (Or.inr (Or.inr ⟨rfl, ht, rfl⟩)))) hd hr, hrun, hended, _, _, rfl, ⟨N, K, hP⟩, ⟨_, rfl⟩, hW, hsame.mono hc hs⟩
theorem own_ret0 (X : own_S p l e R s m args below meth c n0 h0 ws T h cells slots) (hx : p.tables.exec = Jvm.exec) (hret : meth.sig.returnType = none) (hlk : meth.locks = false) (hd : decode c.code pc = .ok (.return_, 1)) (hc : cells ≤ C) (hs : slots ≤ S) (hP : P none h) :
    own_G p e below (own_D s (own_Q n0 h0 ws P) C S) T (mkF m pc Ls []) := by
  obtain ⟨⟨locs, X, N⟩, rfl, K⟩ := X
  obtain ⟨fs, hr, hrun, hended, hW, hsame⟩ := X.leave (v := none) (fun _ => rfl) hlk
  exact ⟨_, _, X.returnOut hx hret hd hr, hrun, hended, _, _, rfl, ⟨N, K, hP⟩, ⟨_, rfl⟩, hW, hsame.mono hc hs⟩
end Leave
section Calls
variable {y : MethodName} {bytes : ByteArray} {maxL : Nat} {ret : Option FieldType} {rm : Room} {W : Nat} {own : String} {index : Nat} {P : Option Value → Heap → Prop} {wsc : List Addr} {G : Outcome → State → Prop} {pc : Nat} {Ls : Array Slot} {rest stk : List Value} {ps : List FieldType} {r : Option FieldType}
theorem own_callS (as : List Value) (X : own_S p l e R s m args below meth c n0 h0 ws T h cells slots) (hx : p.tables.exec = Jvm.exec) (hZ : Z.Warmed39 s.vm) (hown : s.vm.findClass own = some m.cls)
    (w1 : (Jvm.Cond.methodLink own index y).before a0 Z = true) (w2 : (Jvm.Cond.static y).before a0 Z = true) (w3 : (Jvm.Cond.initialized y.cls).before a0 Z = true) (w4 : (Jvm.Cond.code y bytes maxL ret).before a0 Z = true) (hy : y.cls ≠ "java/lang/invoke/MethodHandle" ∧ y.cls ≠ "java/lang/invoke/VarHandle")
    (M : own_M l y bytes maxL ret [] rm Z as.toArray h (own_Q n0 h wsc P)) (q : ∀ x ∈ wsc, x ∈ ws ∨ h0.size ≤ x)
    (hf : rm.frames + 1 ≤ R.frames) (hl : W + (maxL + 11) + rm.locals ≤ R.locals) (hc : cells + rm.cells ≤ R.cells) (hs : slots + rm.slots ≤ R.slots) (hsize : Ls.size = c.maxLocals)
    (hlen : parseMethodDescriptor y.desc = some ⟨ps, r⟩) (hlen' : as.length = ps.length) (hstk : stk = as.reverse ++ rest) (hW : (rest.map fun v => v.category).sum ≤ W) (hd : decode c.code pc = .ok (.invokestatic index, 3))
    (k : ∀ v T' h', own_S p l e R s m args below meth c n0 h0 ws T' h' (cells + rm.cells) (slots + rm.slots) → Keep h h' wsc → P v h' → own_G p e below G T' (mkF m (pc + 3) Ls (v.toList ++ rest))) :
    own_G p e below G T (mkF m pc Ls stk) := by
  obtain ⟨⟨locs, X, N⟩, e0, K⟩ := X
  obtain ⟨v, vm₁, ⟨T', L', k', n'⟩, -, X', ⟨Lc, hQ, l', y', z'⟩, st⟩ := Jvm.LawKit.callS X hx (y := y) hown (mvT hZ w1) (mvT hZ w2) (mvT hZ w3) (mvT hZ w4) hy (backOf (W := W) M hZ w4 w3 hf hl) (g := mkF m pc Ls stk) rfl hsize (argsL := as) (rest := rest) (lenOf hlen hlen') hstk (by show 2 * 0 + _ ≤ _; rw [Nat.mul_zero, Nat.zero_add]; exact hW) hd (fun _ _ => ⟨rfl, e0, hc, hs⟩)
  dsimp only [Pt.U, Pt.locs, Pt.cells, Pt.slots] at X' l' y' z' st hQ
  subst l' y' z'
  obtain ⟨N', K', hP⟩ := hQ
  exact own_st st (k v T' _ ⟨⟨_, X', N.app N'⟩, rfl, K.trans K' q⟩ K' hP)
theorem own_callC (as : List Value) {a : Addr} (X : own_S p l e R s m args below meth c n0 h0 ws T h cells slots) (hx : p.tables.exec = Jvm.exec) (hZ : Z.Warmed39 s.vm) (hown : s.vm.findClass own = some m.cls) (hy1 : y.name = "<init>")
    (w1 : (Jvm.Cond.methodLink own index y).before a0 Z = true) (w2 : (Jvm.Cond.instanceMethod y).before a0 Z = true) (w3 : (Jvm.Cond.initialized y.cls).before a0 Z = true) (w4 : (Jvm.Cond.code y bytes maxL none).before a0 Z = true) (hy : y.cls ≠ "java/lang/invoke/MethodHandle" ∧ y.cls ≠ "java/lang/invoke/VarHandle")
    (M : own_M l y bytes maxL none [] rm Z (Value.ref a :: as).toArray h (own_Q n0 h wsc P)) (q : ∀ x ∈ wsc, x ∈ ws ∨ h0.size ≤ x)
    (hf : rm.frames + 1 ≤ R.frames) (hl : W + (maxL + 11) + rm.locals ≤ R.locals) (hc : cells + rm.cells ≤ R.cells) (hs : slots + rm.slots ≤ R.slots) (hsize : Ls.size = c.maxLocals)
    (hlen : parseMethodDescriptor y.desc = some ⟨ps, r⟩) (hlen' : as.length = ps.length) (hstk : stk = as.reverse ++ .ref a :: rest) (hW : (rest.map fun v => v.category).sum ≤ W) (hd : decode c.code pc = .ok (.invokespecial index, 3))
    (k : ∀ v T' h', own_S p l e R s m args below meth c n0 h0 ws T' h' (cells + rm.cells) (slots + rm.slots) → Keep h h' wsc → P v h' → own_G p e below G T' (mkF m (pc + 3) Ls (v.toList ++ rest))) :
    own_G p e below G T (mkF m pc Ls stk) := by
  obtain ⟨⟨locs, X, N⟩, e0, K⟩ := X
  obtain ⟨v, vm₁, ⟨T', L', k', n'⟩, -, X', ⟨Lc, hQ, l', y', z'⟩, st⟩ := X.specialBack hx (y := y) hy1 hown (mvT hZ w1) (mvT hZ w2) (mvT hZ w4) hy (backOf (W := W) M hZ w4 w3 hf hl) (g := mkF m pc Ls stk) rfl hsize (Steps.refl _) (a := a) (argsL := as) (rest := rest) (lenOf hlen hlen') hstk (by show 2 * 0 + _ ≤ _; rw [Nat.mul_zero, Nat.zero_add]; exact hW) hd (fun _ _ => ⟨rfl, e0, hc, hs⟩)
  dsimp only [Pt.U, Pt.locs, Pt.cells, Pt.slots] at X' l' y' z' st hQ
  subst l' y' z'
  obtain ⟨N', K', hP⟩ := hQ
  exact own_st (fun t => st.trans) (k v T' _ ⟨⟨_, X', N.app N'⟩, rfl, K.trans K' q⟩ K' hP)
theorem own_callV (as : List Value) {a : Addr} (X : own_S p l e R s m args below meth c n0 h0 ws T h cells slots) (hx : p.tables.exec = Jvm.exec) (hZ : Z.Warmed39 s.vm) (hown : s.vm.findClass own = some m.cls)
    (w1 : (Jvm.Cond.methodLink own index y).before a0 Z = true) (w2 : (Jvm.Cond.declares y).before a0 Z = true) (w3 : (Jvm.Cond.selects y.cls y y).before a0 Z = true) (w5 : (Jvm.Cond.instanceMethod y).before a0 Z = true) (w6 : (Jvm.Cond.initialized y.cls).before a0 Z = true) (w4 : (Jvm.Cond.code y bytes maxL ret).before a0 Z = true) (hy : y.cls ≠ "java/lang/invoke/MethodHandle" ∧ y.cls ≠ "java/lang/invoke/VarHandle")
    (E : Exa Z h a y.cls)
    (M : own_M l y bytes maxL ret [] rm Z (Value.ref a :: as).toArray h (own_Q n0 h wsc P)) (q : ∀ x ∈ wsc, x ∈ ws ∨ h0.size ≤ x)
    (hf : rm.frames + 1 ≤ R.frames) (hl : W + (maxL + 11) + rm.locals ≤ R.locals) (hc : cells + rm.cells ≤ R.cells) (hs : slots + rm.slots ≤ R.slots) (hsize : Ls.size = c.maxLocals)
    (hlen : parseMethodDescriptor y.desc = some ⟨ps, r⟩) (hlen' : as.length = ps.length) (hstk : stk = as.reverse ++ .ref a :: rest) (hW : (rest.map fun v => v.category).sum ≤ W) (hd : decode c.code pc = .ok (.invokevirtual index, 3))
    (k : ∀ v T' h', own_S p l e R s m args below meth c n0 h0 ws T' h' (cells + rm.cells) (slots + rm.slots) → Keep h h' wsc → P v h' → own_G p e below G T' (mkF m (pc + 3) Ls (v.toList ++ rest))) :
    own_G p e below G T (mkF m pc Ls stk) := by
  obtain ⟨⟨locs, X, N⟩, e0, K⟩ := X
  obtain ⟨cq, kq, qa, qb, qc⟩ := isOf hZ e0 E
  obtain ⟨v, vm₁, ⟨T', L', k', n'⟩, -, X', ⟨Lc, hQ, l', y', z'⟩, st⟩ := X.virtualBack hx (y := y) (z := y) hown (mvT hZ w1) (mvT hZ w2) (notFace_of_selects (args := #[]) (mvT hZ w3)) (mvT hZ w3) (mvT hZ w5) hy (backOf (W := W) M hZ w4 w6 hf hl) qa qc (g := mkF m pc Ls stk) rfl hsize (Steps.refl _) (argsL := as) (rest := rest) (lenOf hlen hlen') hstk (by show 2 * 0 + _ ≤ _; rw [Nat.mul_zero, Nat.zero_add]; exact hW) hd (fun _ _ => ⟨rfl, e0, hc, hs⟩)
  dsimp only [Pt.U, Pt.locs, Pt.cells, Pt.slots] at X' l' y' z' st hQ
  subst l' y' z'
  obtain ⟨N', K', hP⟩ := hQ
  exact own_st (fun t => st.trans) (k v T' _ ⟨⟨_, X', N.app N'⟩, rfl, K.trans K' q⟩ K' hP)
theorem own_initO {a : Addr} (X : own_S p l e R s m args below meth c n0 h0 ws T h cells slots) (hx : p.tables.exec = Jvm.exec) (hZ : Z.Warmed39 s.vm) (hown : s.vm.findClass own = some m.cls)
    (w1 : (Jvm.Cond.methodLink own index Lib.objectInit).before a0 Z = true) (w2 : (Jvm.Cond.instanceMethod Lib.objectInit).before a0 Z = true) (w3 : (Jvm.Cond.code Lib.objectInit ⟨#[0xb1]⟩ 1 none).before a0 Z = true)
    (hf : 1 ≤ R.frames) (hl : W + 12 ≤ R.locals) (hsize : Ls.size = c.maxLocals) (hW : (rest.map fun v => v.category).sum ≤ W) (hd : decode c.code pc = .ok (.invokespecial index, 3))
    (k : ∀ T', own_S p l e R s m args below meth c n0 h0 ws T' h cells slots → own_G p e below G T' (mkF m (pc + 3) Ls rest)) :
    own_G p e below G T (mkF m pc Ls (.ref a :: rest)) := by
  obtain ⟨⟨locs, X, N⟩, e0, K⟩ := X
  obtain ⟨T1, X1, e1, st⟩ := initO X hx hZ hown w1 w2 w3 e0 (g := mkF m pc Ls (.ref a :: rest)) rfl hsize rfl hd hf (W := W) (by show 2 * 0 + _ ≤ _; rw [Nat.mul_zero, Nat.zero_add]; exact hW) hl
  exact own_st st (k T1 ⟨⟨_, X1, N⟩, e1, K⟩)
/-- a pure callee: it returns this and leaves the heap -/
def own_P (val : Value) (h0 : Heap) (v : Option Value) (h : Heap) : Prop := v = some val ∧ h = h0
theorem own_callSP (as : List Value) {val : Value} (X : own_S p l e R s m args below meth c n0 h0 ws T h cells slots) (hx : p.tables.exec = Jvm.exec) (hZ : Z.Warmed39 s.vm) (hown : s.vm.findClass own = some m.cls)
    (w1 : (Jvm.Cond.methodLink own index y).before a0 Z = true) (w2 : (Jvm.Cond.static y).before a0 Z = true) (w3 : (Jvm.Cond.initialized y.cls).before a0 Z = true) (w4 : (Jvm.Cond.code y bytes maxL ret).before a0 Z = true) (hy : y.cls ≠ "java/lang/invoke/MethodHandle" ∧ y.cls ≠ "java/lang/invoke/VarHandle")
    (M : own_M l y bytes maxL ret [] rm Z as.toArray h (own_Q n0 h [] (own_P val h)))
    (hf : rm.frames + 1 ≤ R.frames) (hl : W + (maxL + 11) + rm.locals ≤ R.locals) (hc : cells + rm.cells ≤ R.cells) (hs : slots + rm.slots ≤ R.slots) (hsize : Ls.size = c.maxLocals)
    (hlen : parseMethodDescriptor y.desc = some ⟨ps, r⟩) (hlen' : as.length = ps.length) (hstk : stk = as.reverse ++ rest) (hW : (rest.map fun v => v.category).sum ≤ W) (hd : decode c.code pc = .ok (.invokestatic index, 3))
    (k : ∀ T', own_S p l e R s m args below meth c n0 h0 ws T' h (cells + rm.cells) (slots + rm.slots) → own_G p e below G T' (mkF m (pc + 3) Ls (val :: rest))) :
    own_G p e below G T (mkF m pc Ls stk) :=
  own_callS as X hx hZ hown w1 w2 w3 w4 hy M (fun _ q => nomatch q) hf hl hc hs hsize hlen hlen' hstk hW hd fun v T' h' X' _ hv => by
    obtain ⟨hv, hh⟩ := hv
    rw [hv]; rw [hh] at X'
    exact k T' X'
/-- a callee that returns nothing and leaves the heap -/
def own_N (h0 : Heap) (v : Option Value) (h : Heap) : Prop := v = none ∧ h = h0
theorem own_callCN (as : List Value) {a : Addr} (X : own_S p l e R s m args below meth c n0 h0 ws T h cells slots) (hx : p.tables.exec = Jvm.exec) (hZ : Z.Warmed39 s.vm) (hown : s.vm.findClass own = some m.cls) (hy1 : y.name = "<init>")
    (w1 : (Jvm.Cond.methodLink own index y).before a0 Z = true) (w2 : (Jvm.Cond.instanceMethod y).before a0 Z = true) (w3 : (Jvm.Cond.initialized y.cls).before a0 Z = true) (w4 : (Jvm.Cond.code y bytes maxL none).before a0 Z = true) (hy : y.cls ≠ "java/lang/invoke/MethodHandle" ∧ y.cls ≠ "java/lang/invoke/VarHandle")
    (M : own_M l y bytes maxL none [] rm Z (Value.ref a :: as).toArray h (own_Q n0 h [] (own_N h)))
    (hf : rm.frames + 1 ≤ R.frames) (hl : W + (maxL + 11) + rm.locals ≤ R.locals) (hc : cells + rm.cells ≤ R.cells) (hs : slots + rm.slots ≤ R.slots) (hsize : Ls.size = c.maxLocals)
    (hlen : parseMethodDescriptor y.desc = some ⟨ps, r⟩) (hlen' : as.length = ps.length) (hstk : stk = as.reverse ++ .ref a :: rest) (hW : (rest.map fun v => v.category).sum ≤ W) (hd : decode c.code pc = .ok (.invokespecial index, 3))
    (k : ∀ T', own_S p l e R s m args below meth c n0 h0 ws T' h (cells + rm.cells) (slots + rm.slots) → own_G p e below G T' (mkF m (pc + 3) Ls rest)) :
    own_G p e below G T (mkF m pc Ls stk) :=
  own_callC as X hx hZ hown hy1 w1 w2 w3 w4 hy M (fun _ q => nomatch q) hf hl hc hs hsize hlen hlen' hstk hW hd fun v T' h' X' _ hv => by
    obtain ⟨hv, hh⟩ := hv
    rw [hv]; rw [hh] at X'
    exact k T' X'
theorem own_callVP (as : List Value) {val : Value} {a : Addr} (X : own_S p l e R s m args below meth c n0 h0 ws T h cells slots) (hx : p.tables.exec = Jvm.exec) (hZ : Z.Warmed39 s.vm) (hown : s.vm.findClass own = some m.cls)
    (w1 : (Jvm.Cond.methodLink own index y).before a0 Z = true) (w2 : (Jvm.Cond.declares y).before a0 Z = true) (w3 : (Jvm.Cond.selects y.cls y y).before a0 Z = true) (w5 : (Jvm.Cond.instanceMethod y).before a0 Z = true) (w6 : (Jvm.Cond.initialized y.cls).before a0 Z = true) (w4 : (Jvm.Cond.code y bytes maxL ret).before a0 Z = true) (hy : y.cls ≠ "java/lang/invoke/MethodHandle" ∧ y.cls ≠ "java/lang/invoke/VarHandle")
    (E : Exa Z h a y.cls)
    (M : own_M l y bytes maxL ret [] rm Z (Value.ref a :: as).toArray h (own_Q n0 h [] (own_P val h)))
    (hf : rm.frames + 1 ≤ R.frames) (hl : W + (maxL + 11) + rm.locals ≤ R.locals) (hc : cells + rm.cells ≤ R.cells) (hs : slots + rm.slots ≤ R.slots) (hsize : Ls.size = c.maxLocals)
    (hlen : parseMethodDescriptor y.desc = some ⟨ps, r⟩) (hlen' : as.length = ps.length) (hstk : stk = as.reverse ++ .ref a :: rest) (hW : (rest.map fun v => v.category).sum ≤ W) (hd : decode c.code pc = .ok (.invokevirtual index, 3))
    (k : ∀ T', own_S p l e R s m args below meth c n0 h0 ws T' h (cells + rm.cells) (slots + rm.slots) → own_G p e below G T' (mkF m (pc + 3) Ls (val :: rest))) :
    own_G p e below G T (mkF m pc Ls stk) :=
  own_callV as X hx hZ hown w1 w2 w3 w5 w6 w4 hy E M (fun _ q => nomatch q) hf hl hc hs hsize hlen hlen' hstk hW hd fun v T' h' X' _ hv => by
    obtain ⟨hv, hh⟩ := hv
    rw [hv]; rw [hh] at X'
    exact k T' X'
theorem own_irem {x z : Int32} (X : own_S p l e R s m args below meth c n0 h0 ws T h cells slots) (hx : p.tables.exec = Jvm.exec) (hd : decode c.code pc = .ok (.irem, 1)) (hz : z ≠ 0)
    (k : own_G p e below G T (mkF m (pc + 1) Ls (.int (x % z) :: rest))) : own_G p e below G T (mkF m pc Ls (.int z :: .int x :: rest)) :=
  own_st (fun t k => XS.irem X.her hx rfl hd rfl hz (by rw [irem_eq_mod]; exact k)) k
theorem own_lrem {x z : Int64} (X : own_S p l e R s m args below meth c n0 h0 ws T h cells slots) (hx : p.tables.exec = Jvm.exec) (hd : decode c.code pc = .ok (.lrem, 1)) (hz : z ≠ 0)
    (k : own_G p e below G T (mkF m (pc + 1) Ls (.long (x % z) :: rest))) : own_G p e below G T (mkF m pc Ls (.long z :: .long x :: rest)) :=
  own_st (fun t k => XS.lrem X.her hx rfl hd rfl hz (by rw [lrem_mod]; exact k)) k
theorem own_b2 (x : Int32) : x.toInt8.toInt32.toInt8.toInt32 = x.toInt8.toInt32 := by simp
end Calls
section Heap
variable {own : String} {index : Nat} {G : Outcome → State → Prop} {pc : Nat} {Ls : Array Slot} {rest : List Value}
theorem own_ldcI {v : Int32} (X : own_S p l e R s m args below meth c n0 h0 ws T h cells slots) (hx : p.tables.exec = Jvm.exec) (hZ : Z.Warmed39 s.vm) (hown : s.vm.findClass own = some m.cls) (w : (Jvm.Cond.constant own index v).before a0 Z = true) (hd : decode c.code pc = .ok (.ldc index, 2))
    (k : own_G p e below G T (mkF m (pc + 2) Ls (.int v :: rest))) : own_G p e below G T (mkF m pc Ls rest) := by
  obtain ⟨⟨locs, X, N⟩, e0, K⟩ := X
  exact own_st (X.ldcInt hx hown (mvT hZ w) (g := mkF m pc Ls rest) rfl hd) k
theorem own_ldcL {v : Int64} (X : own_S p l e R s m args below meth c n0 h0 ws T h cells slots) (hx : p.tables.exec = Jvm.exec) (hZ : Z.Warmed39 s.vm) (hown : s.vm.findClass own = some m.cls) (w : (Jvm.Cond.constantLong own index v).before a0 Z = true) (hd : decode c.code pc = .ok (.ldc2_w index, 3))
    (k : own_G p e below G T (mkF m (pc + 3) Ls (.long v :: rest))) : own_G p e below G T (mkF m pc Ls rest) := by
  obtain ⟨⟨locs, X, N⟩, e0, K⟩ := X
  exact own_st (X.ldc2Long hx hown (mvT hZ w) (g := mkF m pc Ls rest) rfl hd) k
theorem own_getF {a : Addr} {C n d : String} {v : Value} (X : own_S p l e R s m args below meth c n0 h0 ws T h cells slots) (hx : p.tables.exec = Jvm.exec) (hZ : Z.Warmed39 s.vm) (hown : s.vm.findClass own = some m.cls) (w : (Jvm.Cond.fieldLink own index C n d).before a0 Z = true) (F : Fld Z h a C n d v) (hd : decode c.code pc = .ok (.getfield index, 3))
    (k : ∀ T', own_S p l e R s m args below meth c n0 h0 ws T' h cells slots → own_G p e below G T' (mkF m (pc + 3) Ls (v :: rest))) : own_G p e below G T (mkF m pc Ls (.ref a :: rest)) := by
  obtain ⟨⟨locs, X, N⟩, e0, K⟩ := X
  obtain ⟨T1, X1, e1, st⟩ := getF X hx hZ hown (host := "") (Or.inl w) Via.refl e0 F (g := mkF m pc Ls (.ref a :: rest)) rfl rfl hd
  exact own_st st (k T1 ⟨⟨_, X1, N⟩, e1, K⟩)
theorem own_getS {C n d : String} {v : Value} (X : own_S p l e R s m args below meth c n0 h0 ws T h cells slots) (hx : p.tables.exec = Jvm.exec) (hZ : Z.Warmed39 s.vm) (hown : s.vm.findClass own = some m.cls) (w : (Jvm.Cond.fieldLink own index C n d).before a0 Z = true) (F : Sta Z h C n d v) (hd : decode c.code pc = .ok (.getstatic index, 3))
    (k : ∀ T', own_S p l e R s m args below meth c n0 h0 ws T' h cells slots → own_G p e below G T' (mkF m (pc + 3) Ls (v :: rest))) : own_G p e below G T (mkF m pc Ls rest) := by
  obtain ⟨⟨locs, X, N⟩, e0, K⟩ := X
  obtain ⟨T1, X1, e1, st⟩ := getS2 X hx hZ hown (host := "") (Or.inl w) Via.refl e0 F (g := mkF m pc Ls rest) rfl hd
  exact own_st st (k T1 ⟨⟨_, X1, N⟩, e1, K⟩)
theorem own_putF {a : Addr} {C n d : String} {v old : Value} {kk : Nat} {ty : FieldType} (X : own_S p l e R s m args below meth c n0 h0 ws T h cells slots) (hx : p.tables.exec = Jvm.exec) (hZ : Z.Warmed39 s.vm) (hown : s.vm.findClass own = some m.cls) (w : (Jvm.Cond.fieldLink own index C n d).before a0 Z = true) (F : Fld Z h a C n d old) (E : Exa Z h a C)
    (L : (Jvm.Cond.lays C C n d).before a0 Z = true ∨ ((Jvm.Cond.laysFinal C C n d).before a0 Z = true ∧ own = C ∧ meth.name = "<init>")) (wi : (Jvm.Cond.instantiable C kk).before a0 Z = true) (hty : parseFieldDescriptor d = some ty) (hn : narrow ty v = v) (hf : fits ty v = true) (hd : decode c.code pc = .ok (.putfield index, 3)) (ga : n0 ≤ a) (qa : a ∈ ws ∨ h0.size ≤ a)
    (k : ∀ T' h', own_S p l e R s m args below meth c n0 h0 ws T' h' cells slots → Wr h h' a (Jvm.RoadKit.slotOf Z C n d) v → Fld Z h' a C n d v → Exa Z h' a C → own_G p e below G T' (mkF m (pc + 3) Ls rest)) : own_G p e below G T (mkF m pc Ls (v :: .ref a :: rest)) := by
  obtain ⟨⟨locs, X, N⟩, e0, K⟩ := X
  obtain ⟨T1, h1, X1, e1, W1, st⟩ := putF X hx hZ hown (host := "") (Or.inl w) Via.refl e0 F E L wi hty hn hf (g := mkF m pc Ls (v :: .ref a :: rest)) rfl rfl hd
  exact own_st st (k T1 h1 ⟨⟨_, X1, Fr.snoc X1 N ga⟩, e1, K.wr W1 qa⟩ W1 (F.same W1) (E.wr W1))
theorem own_newO {C : String} {kk : Nat} (X : own_S p l e R s m args below meth c n0 h0 ws T h cells slots) (hx : p.tables.exec = Jvm.exec) (hZ : Z.Warmed39 s.vm) (hown : s.vm.findClass own = some m.cls) (w : (Jvm.Cond.classLink own index C).before a0 Z = true) (wi : (Jvm.Cond.instantiable C kk).before a0 Z = true) (wz : (Jvm.Cond.initialized C).before a0 Z = true) (hd : decode c.code pc = .ok (.new index, 3)) (hc : cells + 1 ≤ R.cells) (hl : slots + kk ≤ R.slots)
    (k : ∀ T' h' (b : Addr), b = h.size → h0.size ≤ b → own_S p l e R s m args below meth c n0 h0 ws T' h' (cells + 1) (slots + kk) → Ext h h' → Exa Z h' b C → (∀ {O nm d : String} {ty : FieldType}, Laid Z a0 C O nm d → parseFieldDescriptor d = some ty → Fld Z h' b O nm d (defaultValue ty)) → own_G p e below G T' (mkF m (pc + 3) Ls (.ref b :: rest))) : own_G p e below G T (mkF m pc Ls rest) := by
  obtain ⟨⟨locs, X, N⟩, e0, K⟩ := X
  obtain ⟨T1, h1, X1, e1, E1, A1, D1, -, st⟩ := newO X hx hZ hown w wi wz e0 (g := mkF m pc Ls rest) rfl hd hc hl
  exact own_st st (k T1 h1 _ rfl K.1 ⟨⟨_, X1, N⟩, e1, K.ext E1⟩ E1 A1 D1)
/-- a byte array with these elements -/
def own_B (Z : State) (h : Heap) (a : Addr) (L : List Int32) : Prop := ∃ c : Cell, Arr Z h a c .byte ∧ c.slots = (L.map Value.int).toArray
theorem own_B.lt {a : Addr} {L : List Int32} (B : own_B Z h a L) : a < h.size := by obtain ⟨c, A, _⟩ := B; exact A.lt
theorem own_B.ext {a : Addr} {L : List Int32} (B : own_B Z h a L) (E : Ext h h') : own_B Z h' a L := by obtain ⟨c, A, q⟩ := B; exact ⟨c, A.ext E, q⟩
theorem own_B.other {a b : Addr} {L : List Int32} {sl : Nat} {v : Value} (B : own_B Z h b L) (W : Wr h h' a sl v) (q : b ≠ a) : own_B Z h' b L := by obtain ⟨c, A, r⟩ := B; exact ⟨c, A.other W q, r⟩
theorem own_B.keep {a : Addr} {L : List Int32} (B : own_B Z h a L) (K : Keep h h' ws) (q : a ∉ ws) : own_B Z h' a L := by obtain ⟨c, A, r⟩ := B; exact ⟨c, ⟨K.2.1 a c A.1 q, A.2⟩, r⟩
theorem own_bload {a : Addr} {L : List Int32} {j v : Int32} (X : own_S p l e R s m args below meth c n0 h0 ws T h cells slots) (hx : p.tables.exec = Jvm.exec) (hZ : Z.Warmed39 s.vm) (B : own_B Z h a L) (hj : ¬ j < 0) (hv : L[j.toNatClampNeg]? = some v) (hd : decode c.code pc = .ok (.baload, 1))
    (k : own_G p e below G T (mkF m (pc + 1) Ls (.int v :: rest))) : own_G p e below G T (mkF m pc Ls (.int j :: .ref a :: rest)) := by
  obtain ⟨⟨locs, X, N⟩, e0, K⟩ := X
  obtain ⟨cl, A, q⟩ := B
  have h1 : cl.slots[j.toNatClampNeg]? = some (.int v) := by rw [q]; simp [hv]
  have h2 : ¬ (j < 0 ∨ cl.slots.size ≤ j.toNatClampNeg) := fun z => z.elim hj fun z => by
    have := (Array.getElem?_eq_some_iff.mp h1).1
    omega
  exact own_st (X.baloadBytes hx (j := j) (v := .int v) (by rw [e0]; exact A.1) (State.isArrayOf_alike hZ.alike A.2.1) A.2.2 h2 h1 (g := mkF m pc Ls (.int j :: .ref a :: rest)) rfl rfl hd) k
theorem own_bstore {a : Addr} {L : List Int32} {j x : Int32} (X : own_S p l e R s m args below meth c n0 h0 ws T h cells slots) (hx : p.tables.exec = Jvm.exec) (hZ : Z.Warmed39 s.vm) (B : own_B Z h a L) (hj : ¬ j < 0) (hv : j.toNatClampNeg < L.length) (hd : decode c.code pc = .ok (.bastore, 1)) (ga : n0 ≤ a) (qa : a ∈ ws ∨ h0.size ≤ a)
    (k : ∀ T' h', own_S p l e R s m args below meth c n0 h0 ws T' h' cells slots → Keep h h' [a] → Wr h h' a j.toNatClampNeg (.int (nar .byte x)) → own_B Z h' a (L.set j.toNatClampNeg x.toInt8.toInt32) → own_G p e below G T' (mkF m (pc + 1) Ls rest)) : own_G p e below G T (mkF m pc Ls (.int x :: .int j :: .ref a :: rest)) := by
  obtain ⟨⟨locs, X, N⟩, e0, K⟩ := X
  obtain ⟨cl, A, q⟩ := B
  have h2 : ¬ (j < 0 ∨ cl.slots.size ≤ j.toNatClampNeg) := fun z => z.elim hj fun z => by
    rw [q] at z
    simp at z
    omega
  obtain ⟨T1, h1, X1, e1, W1, st⟩ := stB X hx hZ e0 A (j := j) (x := x) h2 (g := mkF m pc Ls (.int x :: .int j :: .ref a :: rest)) rfl rfl hd
  refine own_st st (k T1 h1 ⟨⟨_, X1, Fr.snoc X1 N ga⟩, e1, K.wr W1 qa⟩ (Keep.of_wr W1) W1 ⟨_, A.same W1, ?_⟩)
  show (cl.slots.setIfInBounds j.toNatClampNeg _) = _
  rw [q]
  simp [nar]
theorem own_newB {n : Int32} {kk : Nat} (X : own_S p l e R s m args below meth c n0 h0 ws T h cells slots) (hx : p.tables.exec = Jvm.exec) (hZ : Z.Warmed39 s.vm) (w : (Jvm.Cond.arrayClass .byte).before a0 Z = true) (hn : ¬ n < 0) (hk : n.toNatClampNeg = kk) (hb : kk * 8 ≤ 536870912) (hc : cells + 1 ≤ R.cells) (hl : slots + kk ≤ R.slots) (hd : decode c.code pc = .ok (.newarray .byte, 2))
    (k : ∀ T' h' (b : Addr), b = h.size → h0.size ≤ b → own_S p l e R s m args below meth c n0 h0 ws T' h' (cells + 1) (slots + kk) → Ext h h' → own_B Z h' b (List.replicate kk 0) → own_G p e below G T' (mkF m (pc + 2) Ls (.ref b :: rest))) : own_G p e below G T (mkF m pc Ls (.int n :: rest)) := by
  obtain ⟨⟨locs, X, N⟩, e0, K⟩ := X
  obtain ⟨T1, h1, cA, X1, e1, E1, A1, st⟩ := newP X hx hZ (aty := .byte) w e0 (g := mkF m pc Ls (.int n :: rest)) rfl hd rfl hn (cap := kk) (Nat.le_of_eq hk) hb hc hl
  refine own_st st (k T1 h1 _ rfl K.1 ⟨⟨_, X1, N⟩, e1, K.ext E1⟩ E1 ⟨_, A1, ?_⟩)
  show Array.replicate n.toNatClampNeg (defaultValue .byte) = _
  rw [hk]
  simp [defaultValue]
end Heap
end Own
theorem own_w0 {Z : State} {a0 : Array Value} (hw : ∀ d ∈ tables_1, d.before a0 Z = true) : (Jvm.Cond.arrayClass Jvm.ClassFile.FieldType.byte).before a0 Z = true := hw _ (List.mem_of_getElem? (i := 0) rfl)
theorem own_w1 {Z : State} {a0 : Array Value} (hw : ∀ d ∈ tables_1, d.before a0 Z = true) : (Jvm.Cond.methodLink "com/example/gauge_links/gaugelinks/graph/LineReaderIndexOfPinLaw" (7 : Nat) ({ cls := "com/example/gauge_links/gaugelinks/graph/LineReaderIndexOfPinLaw", name := "pick", desc := "(JIIC)B" } : Jvm.MethodName)).before a0 Z = true := hw _ (List.mem_of_getElem? (i := 1) rfl)
theorem own_w2 {Z : State} {a0 : Array Value} (hw : ∀ d ∈ tables_1, d.before a0 Z = true) : (Jvm.Cond.static ({ cls := "com/example/gauge_links/gaugelinks/graph/LineReaderIndexOfPinLaw", name := "pick", desc := "(JIIC)B" } : Jvm.MethodName)).before a0 Z = true := hw _ (List.mem_of_getElem? (i := 2) rfl)
theorem own_w3 {Z : State} {a0 : Array Value} (hw : ∀ d ∈ tables_1, d.before a0 Z = true) : (Jvm.Cond.initialized "com/example/gauge_links/gaugelinks/graph/LineReaderIndexOfPinLaw").before a0 Z = true := hw _ (List.mem_of_getElem? (i := 3) rfl)
theorem own_w4 {Z : State} {a0 : Array Value} (hw : ∀ d ∈ tables_1, d.before a0 Z = true) : (Jvm.Cond.code ({ cls := "com/example/gauge_links/gaugelinks/graph/LineReaderIndexOfPinLaw", name := "pick", desc := "(JIIC)B" } : Jvm.MethodName) method_3_code (5 : Nat) (Option.some Jvm.ClassFile.FieldType.byte)).before a0 Z = true := hw _ (List.mem_of_getElem? (i := 4) rfl)
theorem own_w5 {Z : State} {a0 : Array Value} (hw : ∀ d ∈ tables_1, d.before a0 Z = true) : (Jvm.Cond.constant "com/example/gauge_links/gaugelinks/graph/LineReaderIndexOfPinLaw" (13 : Nat) (2147483647 : Int32)).before a0 Z = true := hw _ (List.mem_of_getElem? (i := 5) rfl)
theorem own_w6 {Z : State} {a0 : Array Value} (hw : ∀ d ∈ tables_1, d.before a0 Z = true) : (Jvm.Cond.methodLink "com/example/gauge_links/gaugelinks/graph/LineReaderIndexOfPinLaw" (14 : Nat) ({ cls := "com/example/gauge_links/gaugelinks/graph/LineReaderIndexOfPinLaw", name := "hit", desc := "([BCIII)Z" } : Jvm.MethodName)).before a0 Z = true := hw _ (List.mem_of_getElem? (i := 6) rfl)
theorem own_w7 {Z : State} {a0 : Array Value} (hw : ∀ d ∈ tables_1, d.before a0 Z = true) : (Jvm.Cond.static ({ cls := "com/example/gauge_links/gaugelinks/graph/LineReaderIndexOfPinLaw", name := "hit", desc := "([BCIII)Z" } : Jvm.MethodName)).before a0 Z = true := hw _ (List.mem_of_getElem? (i := 7) rfl)
theorem own_w8 {Z : State} {a0 : Array Value} (hw : ∀ d ∈ tables_1, d.before a0 Z = true) : (Jvm.Cond.code ({ cls := "com/example/gauge_links/gaugelinks/graph/LineReaderIndexOfPinLaw", name := "hit", desc := "([BCIII)Z" } : Jvm.MethodName) method_4_code (5 : Nat) (Option.some Jvm.ClassFile.FieldType.boolean)).before a0 Z = true := hw _ (List.mem_of_getElem? (i := 8) rfl)
theorem own_w9 {Z : State} {a0 : Array Value} (hw : ∀ d ∈ tables_1, d.before a0 Z = true) : (Jvm.Cond.methodLink "com/example/gauge_links/gaugelinks/graph/LineReaderIndexOfPinLaw" (18 : Nat) ({ cls := "com/example/gauge_links/gaugelinks/graph/LineReader", name := "indexOf", desc := "([BCII)I" } : Jvm.MethodName)).before a0 Z = true := hw _ (List.mem_of_getElem? (i := 9) rfl)
theorem own_w10 {Z : State} {a0 : Array Value} (hw : ∀ d ∈ tables_1, d.before a0 Z = true) : (Jvm.Cond.static ({ cls := "com/example/gauge_links/gaugelinks/graph/LineReader", name := "indexOf", desc := "([BCII)I" } : Jvm.MethodName)).before a0 Z = true := hw _ (List.mem_of_getElem? (i := 10) rfl)
theorem own_w11 {Z : State} {a0 : Array Value} (hw : ∀ d ∈ tables_1, d.before a0 Z = true) : (Jvm.Cond.initialized "com/example/gauge_links/gaugelinks/graph/LineReader").before a0 Z = true := hw _ (List.mem_of_getElem? (i := 11) rfl)
theorem own_w12 {Z : State} {a0 : Array Value} (hw : ∀ d ∈ tables_1, d.before a0 Z = true) : (Jvm.Cond.code ({ cls := "com/example/gauge_links/gaugelinks/graph/LineReader", name := "indexOf", desc := "([BCII)I" } : Jvm.MethodName) prog_17_method_16_code (5 : Nat) (Option.some Jvm.ClassFile.FieldType.int)).before a0 Z = true := hw _ (List.mem_of_getElem? (i := 12) rfl)
theorem own_pd0 : parseMethodDescriptor "(JIIC)B" = some ⟨[.long, .int, .int, .char], some .byte⟩ := by decide +kernel
theorem own_pn0 : plainName "com/example/gauge_links/gaugelinks/graph/LineReaderIndexOfPinLaw" = true := by first | (simp [plainName, overriddenIn]; done) | decide +kernel
theorem own_pd1 : parseMethodDescriptor "([BCIII)Z" = some ⟨[(.array .byte), .char, .int, .int, .int], some .boolean⟩ := by decide +kernel
theorem own_pd2 : parseMethodDescriptor "([BCII)I" = some ⟨[(.array .byte), .char, .int, .int], some .int⟩ := by decide +kernel
theorem own_pn1 : plainName "com/example/gauge_links/gaugelinks/graph/LineReader" = true := by first | (simp [plainName, overriddenIn]; done) | decide +kernel
theorem own_pd3 : parseMethodDescriptor "(JIIII)Z" = some ⟨[.long, .int, .int, .int, .int], some .boolean⟩ := by decide +kernel
theorem d1_0 : decode method_3_code 0 = .ok (.iload_n 3, 1) := by decide +kernel
theorem d1_1 : decode method_3_code 1 = .ok (.iload_n 2, 1) := by decide +kernel
theorem d1_2 : decode method_3_code 2 = .ok (.iushr, 1) := by decide +kernel
theorem d1_3 : decode method_3_code 3 = .ok (.iconst 1, 1) := by decide +kernel
theorem d1_4 : decode method_3_code 4 = .ok (.iand, 1) := by decide +kernel
theorem d1_5 : decode method_3_code 5 = .ok (.ifCond .eq 7, 3) := by decide +kernel
theorem d1_8 : decode method_3_code 8 = .ok (.iload 4, 2) := by decide +kernel
theorem d1_10 : decode method_3_code 10 = .ok (.i2b, 1) := by decide +kernel
theorem d1_11 : decode method_3_code 11 = .ok (.ireturn, 1) := by decide +kernel
theorem d1_12 : decode method_3_code 12 = .ok (.lload_n 0, 1) := by decide +kernel
theorem d1_13 : decode method_3_code 13 = .ok (.bipush 8, 2) := by decide +kernel
theorem d1_15 : decode method_3_code 15 = .ok (.iload_n 2, 1) := by decide +kernel
theorem d1_16 : decode method_3_code 16 = .ok (.imul, 1) := by decide +kernel
theorem d1_17 : decode method_3_code 17 = .ok (.lushr, 1) := by decide +kernel
theorem d1_18 : decode method_3_code 18 = .ok (.l2i, 1) := by decide +kernel
theorem d1_19 : decode method_3_code 19 = .ok (.i2b, 1) := by decide +kernel
theorem d1_20 : decode method_3_code 20 = .ok (.ireturn, 1) := by decide +kernel
/-- what the body returns -/
def own_F1 (q0 : Int64) (p1 : Int32) (p2 : Int32) (p3 : Int32) : Int32 :=
  (if (((p2.toUInt32 >>> (p1 &&& 31).toUInt32).toInt32) &&& (1 : Int32)) = (0 : Int32) then ((((q0.toUInt64 >>> (((8 : Int32) * p1) &&& 0x3f).toInt64.toUInt64).toInt64).toInt32).toInt8.toInt32) else (p3.toInt8.toInt32))
theorem own_ef1 (m : MethodId) (q0 : Int64) (p1 : Int32) (p2 : Int32) (p3 : Int32) : entryFrame m #[(.long q0), (.int p1), (.int p2), (.int p3)] 5 = mkF m 0 #[.val (.long q0), .second, .val (.int p1), .val (.int p2), .val (.int p3)] [] := by first | (simp [entryFrame, mkF, argsToLocals, Value.category]; done) | rfl
set_option maxRecDepth 65536 in
set_option maxHeartbeats 40000000 in
theorem own_c1 (l : Launch) (Z : State) (a0 : Array Value) (hw : ∀ d ∈ tables_1, d.before a0 Z = true) (h0 : Heap) (n0 : Nat) (Z0 : n0 ≤ h0.size) (q0 : Int64) (p1 : Int32) (p2 : Int32) (p3 : Int32) :
    own_M l (⟨"com/example/gauge_links/gaugelinks/graph/LineReaderIndexOfPinLaw", "pick", "(JIIC)B"⟩ : MethodName) method_3_code 5 (some .byte) [] ({ frames := 0, cells := 0, slots := 0, locals := 0 } : Room) Z #[(.long q0), (.int p1), (.int p2), (.int p3)] h0 (own_Q n0 h0 [] (own_P (.int (own_F1 q0 p1 p2 p3)) h0)) := by
  refine own_body (plainFor_of_name own_pn0) ?_
  intro p e s m below meth c T0 X0 hx hby hml hown hnm hret hlk hZ
  refine own_cast (own_ef1 m q0 p1 p2 p3) ?_
  refine own_st (f' := (mkF m 1 #[.val (.long q0), .second, .val (.int p1), .val (.int p2), .val (.int p3)] [(.int p2)])) (fun t k => XS.iloadN X0.her hx rfl (hb hby d1_0) rfl k) ?_
  refine own_st (f' := (mkF m 2 #[.val (.long q0), .second, .val (.int p1), .val (.int p2), .val (.int p3)] [(.int p1), (.int p2)])) (fun t k => XS.iloadN X0.her hx rfl (hb hby d1_1) rfl k) ?_
  refine own_st (f' := (mkF m 3 #[.val (.long q0), .second, .val (.int p1), .val (.int p2), .val (.int p3)] [(.int ((p2.toUInt32 >>> (p1 &&& 31).toUInt32).toInt32))])) (fun t k => XS.iushr X0.her hx rfl (hb hby d1_2) rfl k) ?_
  refine own_st (f' := (mkF m 4 #[.val (.long q0), .second, .val (.int p1), .val (.int p2), .val (.int p3)] [(.int (1 : Int32)), (.int ((p2.toUInt32 >>> (p1 &&& 31).toUInt32).toInt32))])) (fun t k => XS.iconst X0.her hx rfl (hb hby d1_3) k) ?_
  refine own_st (f' := (mkF m 5 #[.val (.long q0), .second, .val (.int p1), .val (.int p2), .val (.int p3)] [(.int (((p2.toUInt32 >>> (p1 &&& 31).toUInt32).toInt32) &&& (1 : Int32)))])) (fun t k => XS.iand X0.her hx rfl (hb hby d1_4) rfl k) ?_
  by_cases hc1 : (((p2.toUInt32 >>> (p1 &&& 31).toUInt32).toInt32) &&& (1 : Int32)) = (0 : Int32)
  · refine own_st (f' := (mkF m 12 #[.val (.long q0), .second, .val (.int p1), .val (.int p2), .val (.int p3)] [])) (fun t k => XS.ifYes X0.her hx rfl (pc0 := 5) (pc' := 12) rfl (hb hby d1_5) rfl ((if0 _ _).trans (teq hc1).1) (by decide) (by decide) k) ?_
    refine own_st (f' := (mkF m 13 #[.val (.long q0), .second, .val (.int p1), .val (.int p2), .val (.int p3)] [(.long q0)])) (fun t k => XS.lloadN X0.her hx rfl (hb hby d1_12) rfl k) ?_
    refine own_st (f' := (mkF m 15 #[.val (.long q0), .second, .val (.int p1), .val (.int p2), .val (.int p3)] [(.int (8 : Int32)), (.long q0)])) (fun t k => XS.bipush X0.her hx rfl (hb hby d1_13) k) ?_
    refine own_st (f' := (mkF m 16 #[.val (.long q0), .second, .val (.int p1), .val (.int p2), .val (.int p3)] [(.int p1), (.int (8 : Int32)), (.long q0)])) (fun t k => XS.iloadN X0.her hx rfl (hb hby d1_15) rfl k) ?_
    refine own_st (f' := (mkF m 17 #[.val (.long q0), .second, .val (.int p1), .val (.int p2), .val (.int p3)] [(.int ((8 : Int32) * p1)), (.long q0)])) (fun t k => XS.imul X0.her hx rfl (hb hby d1_16) rfl k) ?_
    refine own_st (f' := (mkF m 18 #[.val (.long q0), .second, .val (.int p1), .val (.int p2), .val (.int p3)] [(.long ((q0.toUInt64 >>> (((8 : Int32) * p1) &&& 0x3f).toInt64.toUInt64).toInt64))])) (fun t k => XS.lushr X0.her hx rfl (hb hby d1_17) rfl k) ?_
    refine own_st (f' := (mkF m 19 #[.val (.long q0), .second, .val (.int p1), .val (.int p2), .val (.int p3)] [(.int (((q0.toUInt64 >>> (((8 : Int32) * p1) &&& 0x3f).toInt64.toUInt64).toInt64).toInt32))])) (fun t k => XS.l2i X0.her hx rfl (hb hby d1_18) rfl k) ?_
    refine own_st (f' := (mkF m 20 #[.val (.long q0), .second, .val (.int p1), .val (.int p2), .val (.int p3)] [(.int ((((q0.toUInt64 >>> (((8 : Int32) * p1) &&& 0x3f).toInt64.toUInt64).toInt64).toInt32).toInt8.toInt32))])) (fun t k => XS.i2b X0.her hx rfl (hb hby d1_19) rfl k) ?_
    refine own_retN (t := .byte) X0 hx hret hlk (by simp) (hb hby d1_20) (by first | decide | omega) (by first | decide | omega) ?_
    exact ⟨congrArg (fun q => some (Value.int q)) (by unfold own_F1; rw [if_pos hc1]; first | done | exact own_b2 _), rfl⟩
  · refine own_st (f' := (mkF m 8 #[.val (.long q0), .second, .val (.int p1), .val (.int p2), .val (.int p3)] [])) (fun t k => XS.ifNo X0.her hx rfl (hb hby d1_5) rfl ((if0 _ _).trans (feq hc1).1) k) ?_
    refine own_st (f' := (mkF m 10 #[.val (.long q0), .second, .val (.int p1), .val (.int p2), .val (.int p3)] [(.int p3)])) (fun t k => XS.iload X0.her hx rfl (hb hby d1_8) rfl k) ?_
    refine own_st (f' := (mkF m 11 #[.val (.long q0), .second, .val (.int p1), .val (.int p2), .val (.int p3)] [(.int (p3.toInt8.toInt32))])) (fun t k => XS.i2b X0.her hx rfl (hb hby d1_10) rfl k) ?_
    refine own_retN (t := .byte) X0 hx hret hlk (by simp) (hb hby d1_11) (by first | decide | omega) (by first | decide | omega) ?_
    exact ⟨congrArg (fun q => some (Value.int q)) (by unfold own_F1; rw [if_neg hc1]; first | done | exact own_b2 _), rfl⟩
theorem own_F1b (a : Int64) (b d e : Int32) : (own_F1 a b d e).toInt8.toInt32 = own_F1 a b d e := by
  unfold own_F1
  split <;> exact own_b2 _
theorem d2_0 : decode method_4_code 0 = .ok (.iload_n 2, 1) := by decide +kernel
theorem d2_1 : decode method_4_code 1 = .ok (.iload 4, 2) := by decide +kernel
theorem d2_3 : decode method_4_code 3 = .ok (.if_icmp .gt 21, 3) := by decide +kernel
theorem d2_6 : decode method_4_code 6 = .ok (.iload 4, 2) := by decide +kernel
theorem d2_8 : decode method_4_code 8 = .ok (.iload_n 3, 1) := by decide +kernel
theorem d2_9 : decode method_4_code 9 = .ok (.if_icmp .ge 15, 3) := by decide +kernel
theorem d2_12 : decode method_4_code 12 = .ok (.aload_n 0, 1) := by decide +kernel
theorem d2_13 : decode method_4_code 13 = .ok (.iload 4, 2) := by decide +kernel
theorem d2_15 : decode method_4_code 15 = .ok (.baload, 1) := by decide +kernel
theorem d2_16 : decode method_4_code 16 = .ok (.iload_n 1, 1) := by decide +kernel
theorem d2_17 : decode method_4_code 17 = .ok (.if_icmp .ne 7, 3) := by decide +kernel
theorem d2_20 : decode method_4_code 20 = .ok (.iconst 1, 1) := by decide +kernel
theorem d2_21 : decode method_4_code 21 = .ok (.goto 4, 3) := by decide +kernel
theorem d2_24 : decode method_4_code 24 = .ok (.iconst 0, 1) := by decide +kernel
theorem d2_25 : decode method_4_code 25 = .ok (.ireturn, 1) := by decide +kernel
/-- what the body returns -/
def own_F2 (p1 : Int32) (p2 : Int32) (p3 : Int32) (p4 : Int32) (w : Int32) : Int32 :=
  (if p4 < p2 then (0 : Int32) else (if p4 < p3 then (if w = p1 then (1 : Int32) else (0 : Int32)) else (0 : Int32)))
theorem own_ef2 (m : MethodId) (r0 : Addr) (p1 : Int32) (p2 : Int32) (p3 : Int32) (p4 : Int32) : entryFrame m #[(.ref r0), (.int p1), (.int p2), (.int p3), (.int p4)] 5 = mkF m 0 #[.val (.ref r0), .val (.int p1), .val (.int p2), .val (.int p3), .val (.int p4)] [] := by first | (simp [entryFrame, mkF, argsToLocals, Value.category]; done) | rfl
set_option maxRecDepth 65536 in
set_option maxHeartbeats 40000000 in
theorem own_c2 (l : Launch) (Z : State) (a0 : Array Value) (hw : ∀ d ∈ tables_1, d.before a0 Z = true) (h0 : Heap) (n0 : Nat) (Z0 : n0 ≤ h0.size) (r0 : Addr) (p1 : Int32) (p2 : Int32) (p3 : Int32) (p4 : Int32) (w : Int32) (L : List Int32) (B0 : own_B Z h0 r0 L) (hj : ¬ p4 < 0) (hv : L[p4.toNatClampNeg]? = some w) :
    own_M l (⟨"com/example/gauge_links/gaugelinks/graph/LineReaderIndexOfPinLaw", "hit", "([BCIII)Z"⟩ : MethodName) method_4_code 5 (some .boolean) [] ({ frames := 0, cells := 0, slots := 0, locals := 0 } : Room) Z #[(.ref r0), (.int p1), (.int p2), (.int p3), (.int p4)] h0 (own_Q n0 h0 [] (own_P (.int (own_F2 p1 p2 p3 p4 w)) h0)) := by
  refine own_body (plainFor_of_name own_pn0) ?_
  intro p e s m below meth c T0 X0 hx hby hml hown hnm hret hlk hZ
  refine own_cast (own_ef2 m r0 p1 p2 p3 p4) ?_
  refine own_st (f' := (mkF m 1 #[.val (.ref r0), .val (.int p1), .val (.int p2), .val (.int p3), .val (.int p4)] [(.int p2)])) (fun t k => XS.iloadN X0.her hx rfl (hb hby d2_0) rfl k) ?_
  refine own_st (f' := (mkF m 3 #[.val (.ref r0), .val (.int p1), .val (.int p2), .val (.int p3), .val (.int p4)] [(.int p4), (.int p2)])) (fun t k => XS.iload X0.her hx rfl (hb hby d2_1) rfl k) ?_
  by_cases hc2 : p4 < p2
  · refine own_st (f' := (mkF m 24 #[.val (.ref r0), .val (.int p1), .val (.int p2), .val (.int p3), .val (.int p4)] [])) (fun t k => XS.icmpYes X0.her hx rfl (pc0 := 3) (pc' := 24) rfl (hb hby d2_3) rfl (tlt hc2).2.2.1 (by decide) (by decide) k) ?_
    refine own_st (f' := (mkF m 25 #[.val (.ref r0), .val (.int p1), .val (.int p2), .val (.int p3), .val (.int p4)] [(.int (0 : Int32))])) (fun t k => XS.iconst X0.her hx rfl (hb hby d2_24) k) ?_
    refine own_retN (t := .boolean) X0 hx hret hlk (by simp) (hb hby d2_25) (by first | decide | omega) (by first | decide | omega) ?_
    exact ⟨congrArg (fun q => some (Value.int q)) (by unfold own_F2; rw [if_pos hc2]; first | done | exact by decide), rfl⟩
  · refine own_st (f' := (mkF m 6 #[.val (.ref r0), .val (.int p1), .val (.int p2), .val (.int p3), .val (.int p4)] [])) (fun t k => XS.icmpNo X0.her hx rfl (hb hby d2_3) rfl (flt hc2).2.2.1 k) ?_
    refine own_st (f' := (mkF m 8 #[.val (.ref r0), .val (.int p1), .val (.int p2), .val (.int p3), .val (.int p4)] [(.int p4)])) (fun t k => XS.iload X0.her hx rfl (hb hby d2_6) rfl k) ?_
    refine own_st (f' := (mkF m 9 #[.val (.ref r0), .val (.int p1), .val (.int p2), .val (.int p3), .val (.int p4)] [(.int p3), (.int p4)])) (fun t k => XS.iloadN X0.her hx rfl (hb hby d2_8) rfl k) ?_
    by_cases hc3 : p4 < p3
    · refine own_st (f' := (mkF m 12 #[.val (.ref r0), .val (.int p1), .val (.int p2), .val (.int p3), .val (.int p4)] [])) (fun t k => XS.icmpNo X0.her hx rfl (hb hby d2_9) rfl (tlt hc3).2.1 k) ?_
      refine own_st (f' := (mkF m 13 #[.val (.ref r0), .val (.int p1), .val (.int p2), .val (.int p3), .val (.int p4)] [(.ref r0)])) (fun t k => XS.aloadN X0.her hx rfl (hb hby d2_12) rfl rfl k) ?_
      refine own_st (f' := (mkF m 15 #[.val (.ref r0), .val (.int p1), .val (.int p2), .val (.int p3), .val (.int p4)] [(.int p4), (.ref r0)])) (fun t k => XS.iload X0.her hx rfl (hb hby d2_13) rfl k) ?_
      refine own_bload (v := w) X0 hx hZ B0 hj hv (hb hby d2_15) ?_
      refine own_st (f' := (mkF m 17 #[.val (.ref r0), .val (.int p1), .val (.int p2), .val (.int p3), .val (.int p4)] [(.int p1), (.int w)])) (fun t k => XS.iloadN X0.her hx rfl (hb hby d2_16) rfl k) ?_
      by_cases hc4 : w = p1
      · refine own_st (f' := (mkF m 20 #[.val (.ref r0), .val (.int p1), .val (.int p2), .val (.int p3), .val (.int p4)] [])) (fun t k => XS.icmpNo X0.her hx rfl (hb hby d2_17) rfl (teq hc4).2 k) ?_
        refine own_st (f' := (mkF m 21 #[.val (.ref r0), .val (.int p1), .val (.int p2), .val (.int p3), .val (.int p4)] [(.int (1 : Int32))])) (fun t k => XS.iconst X0.her hx rfl (hb hby d2_20) k) ?_
        refine own_st (f' := (mkF m 25 #[.val (.ref r0), .val (.int p1), .val (.int p2), .val (.int p3), .val (.int p4)] [(.int (1 : Int32))])) (fun t k => XS.goto X0.her hx rfl (pc0 := 21) (pc' := 25) rfl (hb hby d2_21) (by decide) (by decide) k) ?_
        refine own_retN (t := .boolean) X0 hx hret hlk (by simp) (hb hby d2_25) (by first | decide | omega) (by first | decide | omega) ?_
        exact ⟨congrArg (fun q => some (Value.int q)) (by unfold own_F2; rw [if_neg hc2, if_pos hc3, if_pos hc4]; first | done | exact by decide), rfl⟩
      · refine own_st (f' := (mkF m 24 #[.val (.ref r0), .val (.int p1), .val (.int p2), .val (.int p3), .val (.int p4)] [])) (fun t k => XS.icmpYes X0.her hx rfl (pc0 := 17) (pc' := 24) rfl (hb hby d2_17) rfl (feq hc4).2 (by decide) (by decide) k) ?_
        refine own_st (f' := (mkF m 25 #[.val (.ref r0), .val (.int p1), .val (.int p2), .val (.int p3), .val (.int p4)] [(.int (0 : Int32))])) (fun t k => XS.iconst X0.her hx rfl (hb hby d2_24) k) ?_
        refine own_retN (t := .boolean) X0 hx hret hlk (by simp) (hb hby d2_25) (by first | decide | omega) (by first | decide | omega) ?_
        exact ⟨congrArg (fun q => some (Value.int q)) (by unfold own_F2; rw [if_neg hc2, if_pos hc3, if_neg hc4]; first | done | exact by decide), rfl⟩
    · refine own_st (f' := (mkF m 24 #[.val (.ref r0), .val (.int p1), .val (.int p2), .val (.int p3), .val (.int p4)] [])) (fun t k => XS.icmpYes X0.her hx rfl (pc0 := 9) (pc' := 24) rfl (hb hby d2_9) rfl (flt hc3).2.1 (by decide) (by decide) k) ?_
      refine own_st (f' := (mkF m 25 #[.val (.ref r0), .val (.int p1), .val (.int p2), .val (.int p3), .val (.int p4)] [(.int (0 : Int32))])) (fun t k => XS.iconst X0.her hx rfl (hb hby d2_24) k) ?_
      refine own_retN (t := .boolean) X0 hx hret hlk (by simp) (hb hby d2_25) (by first | decide | omega) (by first | decide | omega) ?_
      exact ⟨congrArg (fun q => some (Value.int q)) (by unfold own_F2; rw [if_neg hc2, if_neg hc3]; first | done | exact by decide), rfl⟩
/-- the first place from i on, of at most k, at which w stands -/
def own_ix (L : List Int32) (w : Int32) : Nat → Int32 → Int32
  | 0, _ => -1
  | k + 1, i => if L[i.toNatClampNeg]? = some w then i else own_ix L w k (i + 1)
theorem d3_3 : decode prog_17_method_16_code 3 = .ok (.iload 4, 2) := by decide +kernel
theorem d3_5 : decode prog_17_method_16_code 5 = .ok (.iload_n 3, 1) := by decide +kernel
theorem d3_6 : decode prog_17_method_16_code 6 = .ok (.if_icmp .ge 20, 3) := by decide +kernel
theorem d3_26 : decode prog_17_method_16_code 26 = .ok (.iconst (-1), 1) := by decide +kernel
theorem d3_27 : decode prog_17_method_16_code 27 = .ok (.ireturn, 1) := by decide +kernel
theorem d3_9 : decode prog_17_method_16_code 9 = .ok (.aload_n 0, 1) := by decide +kernel
theorem d3_10 : decode prog_17_method_16_code 10 = .ok (.iload 4, 2) := by decide +kernel
theorem d3_12 : decode prog_17_method_16_code 12 = .ok (.baload, 1) := by decide +kernel
theorem d3_13 : decode prog_17_method_16_code 13 = .ok (.iload_n 1, 1) := by decide +kernel
theorem d3_14 : decode prog_17_method_16_code 14 = .ok (.if_icmp .ne 6, 3) := by decide +kernel
theorem d3_17 : decode prog_17_method_16_code 17 = .ok (.iload 4, 2) := by decide +kernel
theorem d3_19 : decode prog_17_method_16_code 19 = .ok (.ireturn, 1) := by decide +kernel
theorem d3_20 : decode prog_17_method_16_code 20 = .ok (.iinc 4 1, 3) := by decide +kernel
theorem d3_23 : decode prog_17_method_16_code 23 = .ok (.goto (-20), 3) := by decide +kernel
set_option maxRecDepth 65536 in
set_option maxHeartbeats 40000000 in
theorem own_lp3 {p : Program} {l : Launch} {e : Env} {R : Room} {s : State} {m : MethodId} {args : Array Value} {below : List Frame} {meth : Method} {c : Code} {Z : State} {a0 : Array Value} {n0 : Nat} {C S : Nat} (hw : ∀ d ∈ tables_1, d.before a0 Z = true) (hx : p.tables.exec = Jvm.exec) (hby : c.code = prog_17_method_16_code) (hml : c.maxLocals = 5) (hown : s.vm.findClass "com/example/gauge_links/gaugelinks/graph/LineReader" = some m.cls) (hret : meth.sig.returnType = (some .int)) (hlk : meth.locks = false) (hZ : Z.Warmed39 s.vm) {h0 : Heap} (r0 : Addr) (p1 p2 p3 : Int32) (L : List Int32) (B0 : own_B Z h0 r0 L) (hto : p3.toInt ≤ (L.length : Int)) :
    ∀ (k : Nat) (i : Int32) (T0 : State), own_S p l e R s m args below meth c n0 h0 [] T0 h0 0 0 → (p3.toInt - i.toInt).toNat = k → 0 ≤ i.toInt → own_G p e below (own_D s (own_Q n0 h0 [] (own_P (.int (own_ix L p1 k i)) h0)) C S) T0 (mkF m 3 #[.val (.ref r0), .val (.int p1), .val (.int p2), .val (.int p3), .val (.int i)] []) := by
  intro k
  induction k with
  | zero =>
    intro i T0 X0 hk hi
    have hge : ¬ i < p3 := by rw [Int32.lt_iff_toInt_lt]; omega
    refine own_st (f' := (mkF m 5 #[.val (.ref r0), .val (.int p1), .val (.int p2), .val (.int p3), .val (.int i)] [(.int i)])) (fun t k => XS.iload X0.her hx rfl (hb hby d3_3) rfl k) ?_
    refine own_st (f' := (mkF m 6 #[.val (.ref r0), .val (.int p1), .val (.int p2), .val (.int p3), .val (.int i)] [(.int p3), (.int i)])) (fun t k => XS.iloadN X0.her hx rfl (hb hby d3_5) rfl k) ?_
    refine own_st (f' := (mkF m 26 #[.val (.ref r0), .val (.int p1), .val (.int p2), .val (.int p3), .val (.int i)] [])) (fun t k => XS.icmpYes X0.her hx rfl (pc0 := 6) (pc' := 26) rfl (hb hby d3_6) rfl (flt (hge : ¬ (i < p3))).2.1 (by decide) (by decide) k) ?_
    refine own_st (f' := (mkF m 27 #[.val (.ref r0), .val (.int p1), .val (.int p2), .val (.int p3), .val (.int i)] [(.int (-1 : Int32))])) (fun t k => XS.iconst X0.her hx rfl (hb hby d3_26) k) ?_
    refine own_retI X0 hx hret hlk (hb hby d3_27) (by first | decide | omega) (by first | decide | omega) ?_
    exact ⟨rfl, rfl⟩
  | succ k ih =>
    intro i T0 X0 hk hi
    have hlt : i < p3 := by rw [Int32.lt_iff_toInt_lt]; omega
    have hj : ¬ i < 0 := by rw [Int32.lt_iff_toInt_lt]; exact Int.not_lt.mpr hi
    have hn : i.toNatClampNeg = i.toInt.toNat := rfl
    obtain ⟨w, hv⟩ : ∃ w, L[i.toNatClampNeg]? = some w := ⟨_, List.getElem?_eq_getElem (by omega)⟩
    have hb3 := p3.toInt_lt
    have h1 : (i + 1).toInt = i.toInt + 1 := by rw [Jvm.Kit.i32_add (by rw [show (1 : Int32).toInt = 1 from rfl]; omega) (by rw [show (1 : Int32).toInt = 1 from rfl]; omega)]; rfl
    refine own_st (f' := (mkF m 5 #[.val (.ref r0), .val (.int p1), .val (.int p2), .val (.int p3), .val (.int i)] [(.int i)])) (fun t k => XS.iload X0.her hx rfl (hb hby d3_3) rfl k) ?_
    refine own_st (f' := (mkF m 6 #[.val (.ref r0), .val (.int p1), .val (.int p2), .val (.int p3), .val (.int i)] [(.int p3), (.int i)])) (fun t k => XS.iloadN X0.her hx rfl (hb hby d3_5) rfl k) ?_
    refine own_st (f' := (mkF m 9 #[.val (.ref r0), .val (.int p1), .val (.int p2), .val (.int p3), .val (.int i)] [])) (fun t k => XS.icmpNo X0.her hx rfl (hb hby d3_6) rfl (tlt (hlt : i < p3)).2.1 k) ?_
    refine own_st (f' := (mkF m 10 #[.val (.ref r0), .val (.int p1), .val (.int p2), .val (.int p3), .val (.int i)] [(.ref r0)])) (fun t k => XS.aloadN X0.her hx rfl (hb hby d3_9) rfl rfl k) ?_
    refine own_st (f' := (mkF m 12 #[.val (.ref r0), .val (.int p1), .val (.int p2), .val (.int p3), .val (.int i)] [(.int i), (.ref r0)])) (fun t k => XS.iload X0.her hx rfl (hb hby d3_10) rfl k) ?_
    refine own_bload (v := w) X0 hx hZ B0 hj hv (hb hby d3_12) ?_
    refine own_st (f' := (mkF m 14 #[.val (.ref r0), .val (.int p1), .val (.int p2), .val (.int p3), .val (.int i)] [(.int p1), (.int w)])) (fun t k => XS.iloadN X0.her hx rfl (hb hby d3_13) rfl k) ?_
    by_cases hc5 : w = p1
    · refine own_st (f' := (mkF m 17 #[.val (.ref r0), .val (.int p1), .val (.int p2), .val (.int p3), .val (.int i)] [])) (fun t k => XS.icmpNo X0.her hx rfl (hb hby d3_14) rfl (teq hc5).2 k) ?_
      refine own_st (f' := (mkF m 19 #[.val (.ref r0), .val (.int p1), .val (.int p2), .val (.int p3), .val (.int i)] [(.int i)])) (fun t k => XS.iload X0.her hx rfl (hb hby d3_17) rfl k) ?_
      refine own_retI X0 hx hret hlk (hb hby d3_19) (by first | decide | omega) (by first | decide | omega) ?_
      exact ⟨congrArg (fun q => some (Value.int q)) (if_pos (by rw [hv, hc5])).symm, rfl⟩
    · refine own_st (f' := (mkF m 20 #[.val (.ref r0), .val (.int p1), .val (.int p2), .val (.int p3), .val (.int i)] [])) (fun t k => XS.icmpYes X0.her hx rfl (pc0 := 14) (pc' := 20) rfl (hb hby d3_14) rfl (feq hc5).2 (by decide) (by decide) k) ?_
      refine own_st (f' := (mkF m 23 #[.val (.ref r0), .val (.int p1), .val (.int p2), .val (.int p3), .val (.int (i + (1 : Int32)))] [])) (fun t k => XS.iinc X0.her hx rfl (hb hby d3_20) rfl (l' := #[.val (.ref r0), .val (.int p1), .val (.int p2), .val (.int p3), .val (.int (i + (1 : Int32)))]) rfl k) ?_
      refine own_st (f' := (mkF m 3 #[.val (.ref r0), .val (.int p1), .val (.int p2), .val (.int p3), .val (.int (i + (1 : Int32)))] [])) (fun t k => XS.goto X0.her hx rfl (pc0 := 23) (pc' := 3) rfl (hb hby d3_23) (by decide) (by decide) k) ?_
      rw [show own_ix L p1 (k + 1) i = own_ix L p1 k (i + 1) from if_neg (by rw [hv]; exact fun q => hc5 (Option.some.inj q))]
      exact ih _ _ X0 (by omega) (by omega)
theorem d3_0 : decode prog_17_method_16_code 0 = .ok (.iload_n 2, 1) := by decide +kernel
theorem d3_1 : decode prog_17_method_16_code 1 = .ok (.istore 4, 2) := by decide +kernel
theorem own_ef3 (m : MethodId) (r0 : Addr) (p1 : Int32) (p2 : Int32) (p3 : Int32) : entryFrame m #[(.ref r0), (.int p1), (.int p2), (.int p3)] 5 = mkF m 0 #[.val (.ref r0), .val (.int p1), .val (.int p2), .val (.int p3), .unset] [] := by first | (simp [entryFrame, mkF, argsToLocals, Value.category]; done) | rfl
set_option maxRecDepth 65536 in
set_option maxHeartbeats 40000000 in
theorem own_c3 (l : Launch) (Z : State) (a0 : Array Value) (hw : ∀ d ∈ tables_1, d.before a0 Z = true) (h0 : Heap) (n0 : Nat) (Z0 : n0 ≤ h0.size) (r0 : Addr) (p1 : Int32) (p2 : Int32) (p3 : Int32) (L : List Int32) (B0 : own_B Z h0 r0 L) (hto : p3.toInt ≤ (L.length : Int)) (hfrom : 0 ≤ p2.toInt) :
    own_M l (⟨"com/example/gauge_links/gaugelinks/graph/LineReader", "indexOf", "([BCII)I"⟩ : MethodName) prog_17_method_16_code 5 (some .int) [] ({ frames := 0, cells := 0, slots := 0, locals := 0 } : Room) Z #[(.ref r0), (.int p1), (.int p2), (.int p3)] h0 (own_Q n0 h0 [] (own_P (.int (own_ix L p1 ((p3.toInt - p2.toInt).toNat) p2)) h0)) := by
  refine own_body (plainFor_of_name own_pn1) ?_
  intro p e s m below meth c T0 X0 hx hby hml hown hnm hret hlk hZ
  refine own_cast (own_ef3 m r0 p1 p2 p3) ?_
  refine own_st (f' := (mkF m 1 #[.val (.ref r0), .val (.int p1), .val (.int p2), .val (.int p3), .unset] [(.int p2)])) (fun t k => XS.iloadN X0.her hx rfl (hb hby d3_0) rfl k) ?_
  refine own_st (f' := (mkF m 3 #[.val (.ref r0), .val (.int p1), .val (.int p2), .val (.int p3), .val (.int p2)] [])) (fun t k => XS.istore X0.her hx rfl (hb hby d3_1) rfl (l' := #[.val (.ref r0), .val (.int p1), .val (.int p2), .val (.int p3), .val (.int p2)]) rfl k) ?_
  exact own_lp3 hw hx hby hml hown hret hlk hZ r0 p1 p2 p3 L B0 hto _ _ _ X0 rfl hfrom
def own_t0_5 (q0 : Int64) (p1 : Int32) (p2 : Int32) (p3 : Int32) (p4 : Int32) : Int32 := ((p1 &&& (127 : Int32)).toUInt32.toUInt16.toUInt32.toInt32)
def own_t0_93 (q0 : Int64) (p1 : Int32) (p2 : Int32) (p3 : Int32) (p4 : Int32) : Int32 := ((p3 &&& (2147483647 : Int32)) % (7 : Int32))
def own_t0_103 (q0 : Int64) (p1 : Int32) (p2 : Int32) (p3 : Int32) (p4 : Int32) : Int32 := ((p4 &&& (2147483647 : Int32)) % (7 : Int32))
def own_x120 (q0 : Int64) (p1 : Int32) (p2 : Int32) (p3 : Int32) (p4 : Int32) : Int32 := (if (own_F2 (own_t0_5 q0 p1 p2 p3 p4) (own_t0_93 q0 p1 p2 p3 p4) (own_t0_103 q0 p1 p2 p3 p4) (5 : Int32) (own_F1 q0 (5 : Int32) p2 (own_t0_5 q0 p1 p2 p3 p4))) = (0 : Int32) then (-1 : Int32) else (5 : Int32))
def own_x138 (q0 : Int64) (p1 : Int32) (p2 : Int32) (p3 : Int32) (p4 : Int32) : Int32 := (if (own_F2 (own_t0_5 q0 p1 p2 p3 p4) (own_t0_93 q0 p1 p2 p3 p4) (own_t0_103 q0 p1 p2 p3 p4) (4 : Int32) (own_F1 q0 (4 : Int32) p2 (own_t0_5 q0 p1 p2 p3 p4))) = (0 : Int32) then (own_x120 q0 p1 p2 p3 p4) else (4 : Int32))
def own_x156 (q0 : Int64) (p1 : Int32) (p2 : Int32) (p3 : Int32) (p4 : Int32) : Int32 := (if (own_F2 (own_t0_5 q0 p1 p2 p3 p4) (own_t0_93 q0 p1 p2 p3 p4) (own_t0_103 q0 p1 p2 p3 p4) (3 : Int32) (own_F1 q0 (3 : Int32) p2 (own_t0_5 q0 p1 p2 p3 p4))) = (0 : Int32) then (own_x138 q0 p1 p2 p3 p4) else (3 : Int32))
def own_x174 (q0 : Int64) (p1 : Int32) (p2 : Int32) (p3 : Int32) (p4 : Int32) : Int32 := (if (own_F2 (own_t0_5 q0 p1 p2 p3 p4) (own_t0_93 q0 p1 p2 p3 p4) (own_t0_103 q0 p1 p2 p3 p4) (2 : Int32) (own_F1 q0 (2 : Int32) p2 (own_t0_5 q0 p1 p2 p3 p4))) = (0 : Int32) then (own_x156 q0 p1 p2 p3 p4) else (2 : Int32))
def own_x192 (q0 : Int64) (p1 : Int32) (p2 : Int32) (p3 : Int32) (p4 : Int32) : Int32 := (if (own_F2 (own_t0_5 q0 p1 p2 p3 p4) (own_t0_93 q0 p1 p2 p3 p4) (own_t0_103 q0 p1 p2 p3 p4) (1 : Int32) (own_F1 q0 (1 : Int32) p2 (own_t0_5 q0 p1 p2 p3 p4))) = (0 : Int32) then (own_x174 q0 p1 p2 p3 p4) else (1 : Int32))
def own_x210 (q0 : Int64) (p1 : Int32) (p2 : Int32) (p3 : Int32) (p4 : Int32) : Int32 := (if (own_F2 (own_t0_5 q0 p1 p2 p3 p4) (own_t0_93 q0 p1 p2 p3 p4) (own_t0_103 q0 p1 p2 p3 p4) (0 : Int32) (own_F1 q0 (0 : Int32) p2 (own_t0_5 q0 p1 p2 p3 p4))) = (0 : Int32) then (own_x192 q0 p1 p2 p3 p4) else (0 : Int32))
/-- the plain law -/
theorem own_rfr (q0 : Int64) (p1 p2 p3 p4 : Int32) : 0 ≤ (own_t0_93 q0 p1 p2 p3 p4).toInt ∧ (own_t0_93 q0 p1 p2 p3 p4).toInt ≤ ((6 : Nat) : Int) := by
  have m1 : (p3 &&& 2147483647).toInt = p3.toInt % 2 ^ 31 := Jvm.Kit.i32_mask p3 2147483647 (k := 31) (by decide) (by decide)
  have r : (own_t0_93 q0 p1 p2 p3 p4).toInt = (p3 &&& 2147483647).toInt % 7 := by
    show ((p3 &&& 2147483647) % 7).toInt = _
    rw [Jvm.Kit.i32_rem_nonneg (by omega)]; rfl
  omega
theorem own_rto (q0 : Int64) (p1 p2 p3 p4 : Int32) : 0 ≤ (own_t0_103 q0 p1 p2 p3 p4).toInt ∧ (own_t0_103 q0 p1 p2 p3 p4).toInt ≤ ((6 : Nat) : Int) := by
  have m1 : (p4 &&& 2147483647).toInt = p4.toInt % 2 ^ 31 := Jvm.Kit.i32_mask p4 2147483647 (k := 31) (by decide) (by decide)
  have r : (own_t0_103 q0 p1 p2 p3 p4).toInt = (p4 &&& 2147483647).toInt % 7 := by
    show ((p4 &&& 2147483647) % 7).toInt = _
    rw [Jvm.Kit.i32_rem_nonneg (by omega)]; rfl
  omega
theorem own_seven (x : Int32) (h : 0 ≤ x.toInt ∧ x.toInt ≤ ((6 : Nat) : Int)) : ∃ f : Fin 7, x = Int32.ofNat f.val := by
  refine ⟨⟨x.toInt.toNat, by omega⟩, ?_⟩
  apply Int32.toInt_inj.mp
  rw [Int32.toInt_ofNat_of_lt (by show x.toInt.toNat < _; omega)]
  show x.toInt = (x.toInt.toNat : Int)
  omega
def own_ixb (L : List Bool) : Nat → Int32 → Int32
  | 0, _ => -1
  | k + 1, i => if L[i.toNatClampNeg]? = some true then i else own_ixb L k (i + 1)
theorem own_ix_b (L : List Int32) (w : Int32) (k : Nat) (i : Int32) : own_ix L w k i = own_ixb (L.map fun e => decide (e = w)) k i := by
  induction k generalizing i with
  | zero => rfl
  | succ k ih =>
    have q : (L[i.toNatClampNeg]? = some w) ↔ ((L.map fun e => decide (e = w))[i.toNatClampNeg]? = some true) := by
      rw [List.getElem?_map]
      cases L[i.toNatClampNeg]? <;> simp
    show (if _ then _ else _) = (if _ then _ else _)
    simp only [q, ih]
def own_hb (b : Bool) (f t i : Int32) : Int32 := if i < f then 0 else if i < t then (if b = true then 1 else 0) else 0
theorem own_F2_b (w f t i e : Int32) : own_F2 w f t i e = own_hb (decide (e = w)) f t i := by
  unfold own_F2 own_hb
  simp only [decide_eq_true_eq]
def own_xb (b0 b1 b2 b3 b4 b5 : Bool) (f t : Int32) : Int32 := if own_hb b0 f t 0 = 0 then (if own_hb b1 f t 1 = 0 then (if own_hb b2 f t 2 = 0 then (if own_hb b3 f t 3 = 0 then (if own_hb b4 f t 4 = 0 then (if own_hb b5 f t 5 = 0 then -1 else 5) else 4) else 3) else 2) else 1) else 0
theorem own_dec : ∀ (b0 b1 b2 b3 b4 b5 : Bool) (f t : Fin 7), own_ixb [b0, b1, b2, b3, b4, b5] (((Int32.ofNat t.val).toInt - (Int32.ofNat f.val).toInt).toNat) (Int32.ofNat f.val) = own_xb b0 b1 b2 b3 b4 b5 (Int32.ofNat f.val) (Int32.ofNat t.val) := by decide +kernel
theorem own_fin (q0 : Int64) (p1 p2 p3 p4 : Int32) : own_ix [(own_F1 q0 (0 : Int32) p2 (own_t0_5 q0 p1 p2 p3 p4)), (own_F1 q0 (1 : Int32) p2 (own_t0_5 q0 p1 p2 p3 p4)), (own_F1 q0 (2 : Int32) p2 (own_t0_5 q0 p1 p2 p3 p4)), (own_F1 q0 (3 : Int32) p2 (own_t0_5 q0 p1 p2 p3 p4)), (own_F1 q0 (4 : Int32) p2 (own_t0_5 q0 p1 p2 p3 p4)), (own_F1 q0 (5 : Int32) p2 (own_t0_5 q0 p1 p2 p3 p4))] (own_t0_5 q0 p1 p2 p3 p4) (((own_t0_103 q0 p1 p2 p3 p4).toInt - (own_t0_93 q0 p1 p2 p3 p4).toInt).toNat) (own_t0_93 q0 p1 p2 p3 p4) = own_x210 q0 p1 p2 p3 p4 := by
  unfold own_x210 own_x192 own_x174 own_x156 own_x138 own_x120
  rw [own_ix_b]
  simp only [own_F2_b, List.map_cons, List.map_nil]
  obtain ⟨f, hf⟩ := own_seven _ (own_rfr q0 p1 p2 p3 p4)
  obtain ⟨t, ht⟩ := own_seven _ (own_rto q0 p1 p2 p3 p4)
  rw [hf, ht]
  exact own_dec _ _ _ _ _ _ f t
theorem own_ef0 (m : MethodId) (q0 : Int64) (p1 : Int32) (p2 : Int32) (p3 : Int32) (p4 : Int32) : entryFrame m #[(.long q0), (.int p1), (.int p2), (.int p3), (.int p4)] maxLocals = mkF m 0 #[.val (.long q0), .second, .val (.int p1), .val (.int p2), .val (.int p3), .val (.int p4), .unset, .unset, .unset, .unset, .unset] [] := by first | (simp [entryFrame, mkF, argsToLocals, Value.category, maxLocals]; done) | rfl
set_option maxRecDepth 65536 in
set_option maxHeartbeats 40000000 in
theorem own_c0 (l : Launch) (Z : State) (a0 : Array Value) (hw : ∀ d ∈ tables_1, d.before a0 Z = true) (h0 : Heap) (n0 : Nat) (Z0 : n0 ≤ h0.size) (q0 : Int64) (p1 : Int32) (p2 : Int32) (p3 : Int32) (p4 : Int32) :
    own_M l x code maxLocals ret tables_1 room_1 Z #[(.long q0), (.int p1), (.int p2), (.int p3), (.int p4)] h0 (own_Q n0 h0 [] (fun v _ => v = some (.int 1))) := by
  refine own_body (plainFor_of_name own_pn0) ?_
  intro p e s m below meth c T0 X0 hx hby hml hown hnm hret hlk hZ
  refine own_cast (own_ef0 m q0 p1 p2 p3 p4) ?_
  refine own_st (f' := (mkF m 1 #[.val (.long q0), .second, .val (.int p1), .val (.int p2), .val (.int p3), .val (.int p4), .unset, .unset, .unset, .unset, .unset] [(.int p1)])) (fun t k => XS.iloadN X0.her hx rfl (hb hby at_0) rfl k) ?_
  refine own_st (f' := (mkF m 3 #[.val (.long q0), .second, .val (.int p1), .val (.int p2), .val (.int p3), .val (.int p4), .unset, .unset, .unset, .unset, .unset] [(.int (127 : Int32)), (.int p1)])) (fun t k => XS.bipush X0.her hx rfl (hb hby at_1) k) ?_
  refine own_st (f' := (mkF m 4 #[.val (.long q0), .second, .val (.int p1), .val (.int p2), .val (.int p3), .val (.int p4), .unset, .unset, .unset, .unset, .unset] [(.int (p1 &&& (127 : Int32)))])) (fun t k => XS.iand X0.her hx rfl (hb hby at_3) rfl k) ?_
  refine own_st (f' := (mkF m 5 #[.val (.long q0), .second, .val (.int p1), .val (.int p2), .val (.int p3), .val (.int p4), .unset, .unset, .unset, .unset, .unset] [(.int ((p1 &&& (127 : Int32)).toUInt32.toUInt16.toUInt32.toInt32))])) (fun t k => XS.i2c X0.her hx rfl (hb hby at_4) rfl k) ?_
  refine own_st (f' := (mkF m 7 #[.val (.long q0), .second, .val (.int p1), .val (.int p2), .val (.int p3), .val (.int p4), .val (.int (own_t0_5 q0 p1 p2 p3 p4)), .unset, .unset, .unset, .unset] [])) (fun t k => XS.istore X0.her hx rfl (hb hby at_5) rfl (l' := #[.val (.long q0), .second, .val (.int p1), .val (.int p2), .val (.int p3), .val (.int p4), .val (.int (own_t0_5 q0 p1 p2 p3 p4)), .unset, .unset, .unset, .unset]) rfl k) ?_
  refine own_st (f' := (mkF m 9 #[.val (.long q0), .second, .val (.int p1), .val (.int p2), .val (.int p3), .val (.int p4), .val (.int (own_t0_5 q0 p1 p2 p3 p4)), .unset, .unset, .unset, .unset] [(.int (6 : Int32))])) (fun t k => XS.bipush X0.her hx rfl (hb hby at_7) k) ?_
  refine own_newB (kk := 6) X0 hx hZ (own_w0 hw) (by decide) rfl (by decide) (by decide) (by decide) (hb hby at_9) ?_
  intro T6 h6 b6 g6 q6 X6 E6 B6
  replace B6 : own_B Z h6 b6 [(0 : Int32), (0 : Int32), (0 : Int32), (0 : Int32), (0 : Int32), (0 : Int32)] := B6
  have ga_b6 : n0 ≤ b6 := Nat.le_trans Z0 q6
  have Zn6 : n0 ≤ h6.size := Nat.le_trans Z0 E6.1
  refine own_st (f' := (mkF m 13 #[.val (.long q0), .second, .val (.int p1), .val (.int p2), .val (.int p3), .val (.int p4), .val (.int (own_t0_5 q0 p1 p2 p3 p4)), .val (.ref b6), .unset, .unset, .unset] [])) (fun t k => XS.astore X6.her hx rfl (hb hby at_11) rfl rfl (l' := #[.val (.long q0), .second, .val (.int p1), .val (.int p2), .val (.int p3), .val (.int p4), .val (.int (own_t0_5 q0 p1 p2 p3 p4)), .val (.ref b6), .unset, .unset, .unset]) rfl k) ?_
  refine own_st (f' := (mkF m 15 #[.val (.long q0), .second, .val (.int p1), .val (.int p2), .val (.int p3), .val (.int p4), .val (.int (own_t0_5 q0 p1 p2 p3 p4)), .val (.ref b6), .unset, .unset, .unset] [(.ref b6)])) (fun t k => XS.aload X6.her hx rfl (hb hby at_13) rfl rfl k) ?_
  refine own_st (f' := (mkF m 16 #[.val (.long q0), .second, .val (.int p1), .val (.int p2), .val (.int p3), .val (.int p4), .val (.int (own_t0_5 q0 p1 p2 p3 p4)), .val (.ref b6), .unset, .unset, .unset] [(.int (0 : Int32)), (.ref b6)])) (fun t k => XS.iconst X6.her hx rfl (hb hby at_15) k) ?_
  refine own_st (f' := (mkF m 17 #[.val (.long q0), .second, .val (.int p1), .val (.int p2), .val (.int p3), .val (.int p4), .val (.int (own_t0_5 q0 p1 p2 p3 p4)), .val (.ref b6), .unset, .unset, .unset] [(.long q0), (.int (0 : Int32)), (.ref b6)])) (fun t k => XS.lloadN X6.her hx rfl (hb hby at_16) rfl k) ?_
  refine own_st (f' := (mkF m 18 #[.val (.long q0), .second, .val (.int p1), .val (.int p2), .val (.int p3), .val (.int p4), .val (.int (own_t0_5 q0 p1 p2 p3 p4)), .val (.ref b6), .unset, .unset, .unset] [(.int (0 : Int32)), (.long q0), (.int (0 : Int32)), (.ref b6)])) (fun t k => XS.iconst X6.her hx rfl (hb hby at_17) k) ?_
  refine own_st (f' := (mkF m 19 #[.val (.long q0), .second, .val (.int p1), .val (.int p2), .val (.int p3), .val (.int p4), .val (.int (own_t0_5 q0 p1 p2 p3 p4)), .val (.ref b6), .unset, .unset, .unset] [(.int p2), (.int (0 : Int32)), (.long q0), (.int (0 : Int32)), (.ref b6)])) (fun t k => XS.iloadN X6.her hx rfl (hb hby at_18) rfl k) ?_
  refine own_st (f' := (mkF m 21 #[.val (.long q0), .second, .val (.int p1), .val (.int p2), .val (.int p3), .val (.int p4), .val (.int (own_t0_5 q0 p1 p2 p3 p4)), .val (.ref b6), .unset, .unset, .unset] [(.int (own_t0_5 q0 p1 p2 p3 p4)), (.int p2), (.int (0 : Int32)), (.long q0), (.int (0 : Int32)), (.ref b6)])) (fun t k => XS.iload X6.her hx rfl (hb hby at_19) rfl k) ?_
  refine own_callSP (y := (⟨"com/example/gauge_links/gaugelinks/graph/LineReaderIndexOfPinLaw", "pick", "(JIIC)B"⟩ : MethodName)) (W := 2) [(.long q0), (.int (0 : Int32)), (.int p2), (.int (own_t0_5 q0 p1 p2 p3 p4))] X6 hx hZ hown (own_w1 hw) (own_w2 hw) (own_w3 hw) (own_w4 hw) (by decide) (own_c1 l Z a0 hw h6 n0 Zn6 q0 (0 : Int32) p2 (own_t0_5 q0 p1 p2 p3 p4)) (by decide) (by decide) (by decide) (by decide) (by rw [hml]; rfl) own_pd0 rfl rfl (Nat.le_of_eq rfl) (hb hby at_21) ?_
  intro T7 X7
  show own_G p e below _ T7 (mkF m 24 #[.val (.long q0), .second, .val (.int p1), .val (.int p2), .val (.int p3), .val (.int p4), .val (.int (own_t0_5 q0 p1 p2 p3 p4)), .val (.ref b6), .unset, .unset, .unset] [(.int (own_F1 q0 (0 : Int32) p2 (own_t0_5 q0 p1 p2 p3 p4))), (.int (0 : Int32)), (.ref b6)])
  refine own_bstore X7 hx hZ B6 (by decide) (by show 0 < 6; decide) (hb hby at_24) ga_b6 (Or.inr q6) ?_
  intro T8 h8 X8 K8 W8 B8
  rw [show ((own_F1 q0 (0 : Int32) p2 (own_t0_5 q0 p1 p2 p3 p4))).toInt8.toInt32 = (own_F1 q0 (0 : Int32) p2 (own_t0_5 q0 p1 p2 p3 p4)) from own_F1b _ _ _ _] at B8
  replace B8 : own_B Z h8 b6 [(own_F1 q0 (0 : Int32) p2 (own_t0_5 q0 p1 p2 p3 p4)), (0 : Int32), (0 : Int32), (0 : Int32), (0 : Int32), (0 : Int32)] := B8
  have Zn8 : n0 ≤ h8.size := Nat.le_trans Zn6 K8.1
  refine own_st (f' := (mkF m 27 #[.val (.long q0), .second, .val (.int p1), .val (.int p2), .val (.int p3), .val (.int p4), .val (.int (own_t0_5 q0 p1 p2 p3 p4)), .val (.ref b6), .unset, .unset, .unset] [(.ref b6)])) (fun t k => XS.aload X8.her hx rfl (hb hby at_25) rfl rfl k) ?_
  refine own_st (f' := (mkF m 28 #[.val (.long q0), .second, .val (.int p1), .val (.int p2), .val (.int p3), .val (.int p4), .val (.int (own_t0_5 q0 p1 p2 p3 p4)), .val (.ref b6), .unset, .unset, .unset] [(.int (1 : Int32)), (.ref b6)])) (fun t k => XS.iconst X8.her hx rfl (hb hby at_27) k) ?_
  refine own_st (f' := (mkF m 29 #[.val (.long q0), .second, .val (.int p1), .val (.int p2), .val (.int p3), .val (.int p4), .val (.int (own_t0_5 q0 p1 p2 p3 p4)), .val (.ref b6), .unset, .unset, .unset] [(.long q0), (.int (1 : Int32)), (.ref b6)])) (fun t k => XS.lloadN X8.her hx rfl (hb hby at_28) rfl k) ?_
  refine own_st (f' := (mkF m 30 #[.val (.long q0), .second, .val (.int p1), .val (.int p2), .val (.int p3), .val (.int p4), .val (.int (own_t0_5 q0 p1 p2 p3 p4)), .val (.ref b6), .unset, .unset, .unset] [(.int (1 : Int32)), (.long q0), (.int (1 : Int32)), (.ref b6)])) (fun t k => XS.iconst X8.her hx rfl (hb hby at_29) k) ?_
  refine own_st (f' := (mkF m 31 #[.val (.long q0), .second, .val (.int p1), .val (.int p2), .val (.int p3), .val (.int p4), .val (.int (own_t0_5 q0 p1 p2 p3 p4)), .val (.ref b6), .unset, .unset, .unset] [(.int p2), (.int (1 : Int32)), (.long q0), (.int (1 : Int32)), (.ref b6)])) (fun t k => XS.iloadN X8.her hx rfl (hb hby at_30) rfl k) ?_
  refine own_st (f' := (mkF m 33 #[.val (.long q0), .second, .val (.int p1), .val (.int p2), .val (.int p3), .val (.int p4), .val (.int (own_t0_5 q0 p1 p2 p3 p4)), .val (.ref b6), .unset, .unset, .unset] [(.int (own_t0_5 q0 p1 p2 p3 p4)), (.int p2), (.int (1 : Int32)), (.long q0), (.int (1 : Int32)), (.ref b6)])) (fun t k => XS.iload X8.her hx rfl (hb hby at_31) rfl k) ?_
  refine own_callSP (y := (⟨"com/example/gauge_links/gaugelinks/graph/LineReaderIndexOfPinLaw", "pick", "(JIIC)B"⟩ : MethodName)) (W := 2) [(.long q0), (.int (1 : Int32)), (.int p2), (.int (own_t0_5 q0 p1 p2 p3 p4))] X8 hx hZ hown (own_w1 hw) (own_w2 hw) (own_w3 hw) (own_w4 hw) (by decide) (own_c1 l Z a0 hw h8 n0 Zn8 q0 (1 : Int32) p2 (own_t0_5 q0 p1 p2 p3 p4)) (by decide) (by decide) (by decide) (by decide) (by rw [hml]; rfl) own_pd0 rfl rfl (Nat.le_of_eq rfl) (hb hby at_33) ?_
  intro T9 X9
  show own_G p e below _ T9 (mkF m 36 #[.val (.long q0), .second, .val (.int p1), .val (.int p2), .val (.int p3), .val (.int p4), .val (.int (own_t0_5 q0 p1 p2 p3 p4)), .val (.ref b6), .unset, .unset, .unset] [(.int (own_F1 q0 (1 : Int32) p2 (own_t0_5 q0 p1 p2 p3 p4))), (.int (1 : Int32)), (.ref b6)])
  refine own_bstore X9 hx hZ B8 (by decide) (by show 1 < 6; decide) (hb hby at_36) ga_b6 (Or.inr q6) ?_
  intro T10 h10 X10 K10 W10 B10
  rw [show ((own_F1 q0 (1 : Int32) p2 (own_t0_5 q0 p1 p2 p3 p4))).toInt8.toInt32 = (own_F1 q0 (1 : Int32) p2 (own_t0_5 q0 p1 p2 p3 p4)) from own_F1b _ _ _ _] at B10
  replace B10 : own_B Z h10 b6 [(own_F1 q0 (0 : Int32) p2 (own_t0_5 q0 p1 p2 p3 p4)), (own_F1 q0 (1 : Int32) p2 (own_t0_5 q0 p1 p2 p3 p4)), (0 : Int32), (0 : Int32), (0 : Int32), (0 : Int32)] := B10
  have Zn10 : n0 ≤ h10.size := Nat.le_trans Zn8 K10.1
  refine own_st (f' := (mkF m 39 #[.val (.long q0), .second, .val (.int p1), .val (.int p2), .val (.int p3), .val (.int p4), .val (.int (own_t0_5 q0 p1 p2 p3 p4)), .val (.ref b6), .unset, .unset, .unset] [(.ref b6)])) (fun t k => XS.aload X10.her hx rfl (hb hby at_37) rfl rfl k) ?_
  refine own_st (f' := (mkF m 40 #[.val (.long q0), .second, .val (.int p1), .val (.int p2), .val (.int p3), .val (.int p4), .val (.int (own_t0_5 q0 p1 p2 p3 p4)), .val (.ref b6), .unset, .unset, .unset] [(.int (2 : Int32)), (.ref b6)])) (fun t k => XS.iconst X10.her hx rfl (hb hby at_39) k) ?_
  refine own_st (f' := (mkF m 41 #[.val (.long q0), .second, .val (.int p1), .val (.int p2), .val (.int p3), .val (.int p4), .val (.int (own_t0_5 q0 p1 p2 p3 p4)), .val (.ref b6), .unset, .unset, .unset] [(.long q0), (.int (2 : Int32)), (.ref b6)])) (fun t k => XS.lloadN X10.her hx rfl (hb hby at_40) rfl k) ?_
  refine own_st (f' := (mkF m 42 #[.val (.long q0), .second, .val (.int p1), .val (.int p2), .val (.int p3), .val (.int p4), .val (.int (own_t0_5 q0 p1 p2 p3 p4)), .val (.ref b6), .unset, .unset, .unset] [(.int (2 : Int32)), (.long q0), (.int (2 : Int32)), (.ref b6)])) (fun t k => XS.iconst X10.her hx rfl (hb hby at_41) k) ?_
  refine own_st (f' := (mkF m 43 #[.val (.long q0), .second, .val (.int p1), .val (.int p2), .val (.int p3), .val (.int p4), .val (.int (own_t0_5 q0 p1 p2 p3 p4)), .val (.ref b6), .unset, .unset, .unset] [(.int p2), (.int (2 : Int32)), (.long q0), (.int (2 : Int32)), (.ref b6)])) (fun t k => XS.iloadN X10.her hx rfl (hb hby at_42) rfl k) ?_
  refine own_st (f' := (mkF m 45 #[.val (.long q0), .second, .val (.int p1), .val (.int p2), .val (.int p3), .val (.int p4), .val (.int (own_t0_5 q0 p1 p2 p3 p4)), .val (.ref b6), .unset, .unset, .unset] [(.int (own_t0_5 q0 p1 p2 p3 p4)), (.int p2), (.int (2 : Int32)), (.long q0), (.int (2 : Int32)), (.ref b6)])) (fun t k => XS.iload X10.her hx rfl (hb hby at_43) rfl k) ?_
  refine own_callSP (y := (⟨"com/example/gauge_links/gaugelinks/graph/LineReaderIndexOfPinLaw", "pick", "(JIIC)B"⟩ : MethodName)) (W := 2) [(.long q0), (.int (2 : Int32)), (.int p2), (.int (own_t0_5 q0 p1 p2 p3 p4))] X10 hx hZ hown (own_w1 hw) (own_w2 hw) (own_w3 hw) (own_w4 hw) (by decide) (own_c1 l Z a0 hw h10 n0 Zn10 q0 (2 : Int32) p2 (own_t0_5 q0 p1 p2 p3 p4)) (by decide) (by decide) (by decide) (by decide) (by rw [hml]; rfl) own_pd0 rfl rfl (Nat.le_of_eq rfl) (hb hby at_45) ?_
  intro T11 X11
  show own_G p e below _ T11 (mkF m 48 #[.val (.long q0), .second, .val (.int p1), .val (.int p2), .val (.int p3), .val (.int p4), .val (.int (own_t0_5 q0 p1 p2 p3 p4)), .val (.ref b6), .unset, .unset, .unset] [(.int (own_F1 q0 (2 : Int32) p2 (own_t0_5 q0 p1 p2 p3 p4))), (.int (2 : Int32)), (.ref b6)])
  refine own_bstore X11 hx hZ B10 (by decide) (by show 2 < 6; decide) (hb hby at_48) ga_b6 (Or.inr q6) ?_
  intro T12 h12 X12 K12 W12 B12
  rw [show ((own_F1 q0 (2 : Int32) p2 (own_t0_5 q0 p1 p2 p3 p4))).toInt8.toInt32 = (own_F1 q0 (2 : Int32) p2 (own_t0_5 q0 p1 p2 p3 p4)) from own_F1b _ _ _ _] at B12
  replace B12 : own_B Z h12 b6 [(own_F1 q0 (0 : Int32) p2 (own_t0_5 q0 p1 p2 p3 p4)), (own_F1 q0 (1 : Int32) p2 (own_t0_5 q0 p1 p2 p3 p4)), (own_F1 q0 (2 : Int32) p2 (own_t0_5 q0 p1 p2 p3 p4)), (0 : Int32), (0 : Int32), (0 : Int32)] := B12
  have Zn12 : n0 ≤ h12.size := Nat.le_trans Zn10 K12.1
  refine own_st (f' := (mkF m 51 #[.val (.long q0), .second, .val (.int p1), .val (.int p2), .val (.int p3), .val (.int p4), .val (.int (own_t0_5 q0 p1 p2 p3 p4)), .val (.ref b6), .unset, .unset, .unset] [(.ref b6)])) (fun t k => XS.aload X12.her hx rfl (hb hby at_49) rfl rfl k) ?_
  refine own_st (f' := (mkF m 52 #[.val (.long q0), .second, .val (.int p1), .val (.int p2), .val (.int p3), .val (.int p4), .val (.int (own_t0_5 q0 p1 p2 p3 p4)), .val (.ref b6), .unset, .unset, .unset] [(.int (3 : Int32)), (.ref b6)])) (fun t k => XS.iconst X12.her hx rfl (hb hby at_51) k) ?_
  refine own_st (f' := (mkF m 53 #[.val (.long q0), .second, .val (.int p1), .val (.int p2), .val (.int p3), .val (.int p4), .val (.int (own_t0_5 q0 p1 p2 p3 p4)), .val (.ref b6), .unset, .unset, .unset] [(.long q0), (.int (3 : Int32)), (.ref b6)])) (fun t k => XS.lloadN X12.her hx rfl (hb hby at_52) rfl k) ?_
  refine own_st (f' := (mkF m 54 #[.val (.long q0), .second, .val (.int p1), .val (.int p2), .val (.int p3), .val (.int p4), .val (.int (own_t0_5 q0 p1 p2 p3 p4)), .val (.ref b6), .unset, .unset, .unset] [(.int (3 : Int32)), (.long q0), (.int (3 : Int32)), (.ref b6)])) (fun t k => XS.iconst X12.her hx rfl (hb hby at_53) k) ?_
  refine own_st (f' := (mkF m 55 #[.val (.long q0), .second, .val (.int p1), .val (.int p2), .val (.int p3), .val (.int p4), .val (.int (own_t0_5 q0 p1 p2 p3 p4)), .val (.ref b6), .unset, .unset, .unset] [(.int p2), (.int (3 : Int32)), (.long q0), (.int (3 : Int32)), (.ref b6)])) (fun t k => XS.iloadN X12.her hx rfl (hb hby at_54) rfl k) ?_
  refine own_st (f' := (mkF m 57 #[.val (.long q0), .second, .val (.int p1), .val (.int p2), .val (.int p3), .val (.int p4), .val (.int (own_t0_5 q0 p1 p2 p3 p4)), .val (.ref b6), .unset, .unset, .unset] [(.int (own_t0_5 q0 p1 p2 p3 p4)), (.int p2), (.int (3 : Int32)), (.long q0), (.int (3 : Int32)), (.ref b6)])) (fun t k => XS.iload X12.her hx rfl (hb hby at_55) rfl k) ?_
  refine own_callSP (y := (⟨"com/example/gauge_links/gaugelinks/graph/LineReaderIndexOfPinLaw", "pick", "(JIIC)B"⟩ : MethodName)) (W := 2) [(.long q0), (.int (3 : Int32)), (.int p2), (.int (own_t0_5 q0 p1 p2 p3 p4))] X12 hx hZ hown (own_w1 hw) (own_w2 hw) (own_w3 hw) (own_w4 hw) (by decide) (own_c1 l Z a0 hw h12 n0 Zn12 q0 (3 : Int32) p2 (own_t0_5 q0 p1 p2 p3 p4)) (by decide) (by decide) (by decide) (by decide) (by rw [hml]; rfl) own_pd0 rfl rfl (Nat.le_of_eq rfl) (hb hby at_57) ?_
  intro T13 X13
  show own_G p e below _ T13 (mkF m 60 #[.val (.long q0), .second, .val (.int p1), .val (.int p2), .val (.int p3), .val (.int p4), .val (.int (own_t0_5 q0 p1 p2 p3 p4)), .val (.ref b6), .unset, .unset, .unset] [(.int (own_F1 q0 (3 : Int32) p2 (own_t0_5 q0 p1 p2 p3 p4))), (.int (3 : Int32)), (.ref b6)])
  refine own_bstore X13 hx hZ B12 (by decide) (by show 3 < 6; decide) (hb hby at_60) ga_b6 (Or.inr q6) ?_
  intro T14 h14 X14 K14 W14 B14
  rw [show ((own_F1 q0 (3 : Int32) p2 (own_t0_5 q0 p1 p2 p3 p4))).toInt8.toInt32 = (own_F1 q0 (3 : Int32) p2 (own_t0_5 q0 p1 p2 p3 p4)) from own_F1b _ _ _ _] at B14
  replace B14 : own_B Z h14 b6 [(own_F1 q0 (0 : Int32) p2 (own_t0_5 q0 p1 p2 p3 p4)), (own_F1 q0 (1 : Int32) p2 (own_t0_5 q0 p1 p2 p3 p4)), (own_F1 q0 (2 : Int32) p2 (own_t0_5 q0 p1 p2 p3 p4)), (own_F1 q0 (3 : Int32) p2 (own_t0_5 q0 p1 p2 p3 p4)), (0 : Int32), (0 : Int32)] := B14
  have Zn14 : n0 ≤ h14.size := Nat.le_trans Zn12 K14.1
  refine own_st (f' := (mkF m 63 #[.val (.long q0), .second, .val (.int p1), .val (.int p2), .val (.int p3), .val (.int p4), .val (.int (own_t0_5 q0 p1 p2 p3 p4)), .val (.ref b6), .unset, .unset, .unset] [(.ref b6)])) (fun t k => XS.aload X14.her hx rfl (hb hby at_61) rfl rfl k) ?_
  refine own_st (f' := (mkF m 64 #[.val (.long q0), .second, .val (.int p1), .val (.int p2), .val (.int p3), .val (.int p4), .val (.int (own_t0_5 q0 p1 p2 p3 p4)), .val (.ref b6), .unset, .unset, .unset] [(.int (4 : Int32)), (.ref b6)])) (fun t k => XS.iconst X14.her hx rfl (hb hby at_63) k) ?_
  refine own_st (f' := (mkF m 65 #[.val (.long q0), .second, .val (.int p1), .val (.int p2), .val (.int p3), .val (.int p4), .val (.int (own_t0_5 q0 p1 p2 p3 p4)), .val (.ref b6), .unset, .unset, .unset] [(.long q0), (.int (4 : Int32)), (.ref b6)])) (fun t k => XS.lloadN X14.her hx rfl (hb hby at_64) rfl k) ?_
  refine own_st (f' := (mkF m 66 #[.val (.long q0), .second, .val (.int p1), .val (.int p2), .val (.int p3), .val (.int p4), .val (.int (own_t0_5 q0 p1 p2 p3 p4)), .val (.ref b6), .unset, .unset, .unset] [(.int (4 : Int32)), (.long q0), (.int (4 : Int32)), (.ref b6)])) (fun t k => XS.iconst X14.her hx rfl (hb hby at_65) k) ?_
  refine own_st (f' := (mkF m 67 #[.val (.long q0), .second, .val (.int p1), .val (.int p2), .val (.int p3), .val (.int p4), .val (.int (own_t0_5 q0 p1 p2 p3 p4)), .val (.ref b6), .unset, .unset, .unset] [(.int p2), (.int (4 : Int32)), (.long q0), (.int (4 : Int32)), (.ref b6)])) (fun t k => XS.iloadN X14.her hx rfl (hb hby at_66) rfl k) ?_
  refine own_st (f' := (mkF m 69 #[.val (.long q0), .second, .val (.int p1), .val (.int p2), .val (.int p3), .val (.int p4), .val (.int (own_t0_5 q0 p1 p2 p3 p4)), .val (.ref b6), .unset, .unset, .unset] [(.int (own_t0_5 q0 p1 p2 p3 p4)), (.int p2), (.int (4 : Int32)), (.long q0), (.int (4 : Int32)), (.ref b6)])) (fun t k => XS.iload X14.her hx rfl (hb hby at_67) rfl k) ?_
  refine own_callSP (y := (⟨"com/example/gauge_links/gaugelinks/graph/LineReaderIndexOfPinLaw", "pick", "(JIIC)B"⟩ : MethodName)) (W := 2) [(.long q0), (.int (4 : Int32)), (.int p2), (.int (own_t0_5 q0 p1 p2 p3 p4))] X14 hx hZ hown (own_w1 hw) (own_w2 hw) (own_w3 hw) (own_w4 hw) (by decide) (own_c1 l Z a0 hw h14 n0 Zn14 q0 (4 : Int32) p2 (own_t0_5 q0 p1 p2 p3 p4)) (by decide) (by decide) (by decide) (by decide) (by rw [hml]; rfl) own_pd0 rfl rfl (Nat.le_of_eq rfl) (hb hby at_69) ?_
  intro T15 X15
  show own_G p e below _ T15 (mkF m 72 #[.val (.long q0), .second, .val (.int p1), .val (.int p2), .val (.int p3), .val (.int p4), .val (.int (own_t0_5 q0 p1 p2 p3 p4)), .val (.ref b6), .unset, .unset, .unset] [(.int (own_F1 q0 (4 : Int32) p2 (own_t0_5 q0 p1 p2 p3 p4))), (.int (4 : Int32)), (.ref b6)])
  refine own_bstore X15 hx hZ B14 (by decide) (by show 4 < 6; decide) (hb hby at_72) ga_b6 (Or.inr q6) ?_
  intro T16 h16 X16 K16 W16 B16
  rw [show ((own_F1 q0 (4 : Int32) p2 (own_t0_5 q0 p1 p2 p3 p4))).toInt8.toInt32 = (own_F1 q0 (4 : Int32) p2 (own_t0_5 q0 p1 p2 p3 p4)) from own_F1b _ _ _ _] at B16
  replace B16 : own_B Z h16 b6 [(own_F1 q0 (0 : Int32) p2 (own_t0_5 q0 p1 p2 p3 p4)), (own_F1 q0 (1 : Int32) p2 (own_t0_5 q0 p1 p2 p3 p4)), (own_F1 q0 (2 : Int32) p2 (own_t0_5 q0 p1 p2 p3 p4)), (own_F1 q0 (3 : Int32) p2 (own_t0_5 q0 p1 p2 p3 p4)), (own_F1 q0 (4 : Int32) p2 (own_t0_5 q0 p1 p2 p3 p4)), (0 : Int32)] := B16
  have Zn16 : n0 ≤ h16.size := Nat.le_trans Zn14 K16.1
  refine own_st (f' := (mkF m 75 #[.val (.long q0), .second, .val (.int p1), .val (.int p2), .val (.int p3), .val (.int p4), .val (.int (own_t0_5 q0 p1 p2 p3 p4)), .val (.ref b6), .unset, .unset, .unset] [(.ref b6)])) (fun t k => XS.aload X16.her hx rfl (hb hby at_73) rfl rfl k) ?_
  refine own_st (f' := (mkF m 76 #[.val (.long q0), .second, .val (.int p1), .val (.int p2), .val (.int p3), .val (.int p4), .val (.int (own_t0_5 q0 p1 p2 p3 p4)), .val (.ref b6), .unset, .unset, .unset] [(.int (5 : Int32)), (.ref b6)])) (fun t k => XS.iconst X16.her hx rfl (hb hby at_75) k) ?_
  refine own_st (f' := (mkF m 77 #[.val (.long q0), .second, .val (.int p1), .val (.int p2), .val (.int p3), .val (.int p4), .val (.int (own_t0_5 q0 p1 p2 p3 p4)), .val (.ref b6), .unset, .unset, .unset] [(.long q0), (.int (5 : Int32)), (.ref b6)])) (fun t k => XS.lloadN X16.her hx rfl (hb hby at_76) rfl k) ?_
  refine own_st (f' := (mkF m 78 #[.val (.long q0), .second, .val (.int p1), .val (.int p2), .val (.int p3), .val (.int p4), .val (.int (own_t0_5 q0 p1 p2 p3 p4)), .val (.ref b6), .unset, .unset, .unset] [(.int (5 : Int32)), (.long q0), (.int (5 : Int32)), (.ref b6)])) (fun t k => XS.iconst X16.her hx rfl (hb hby at_77) k) ?_
  refine own_st (f' := (mkF m 79 #[.val (.long q0), .second, .val (.int p1), .val (.int p2), .val (.int p3), .val (.int p4), .val (.int (own_t0_5 q0 p1 p2 p3 p4)), .val (.ref b6), .unset, .unset, .unset] [(.int p2), (.int (5 : Int32)), (.long q0), (.int (5 : Int32)), (.ref b6)])) (fun t k => XS.iloadN X16.her hx rfl (hb hby at_78) rfl k) ?_
  refine own_st (f' := (mkF m 81 #[.val (.long q0), .second, .val (.int p1), .val (.int p2), .val (.int p3), .val (.int p4), .val (.int (own_t0_5 q0 p1 p2 p3 p4)), .val (.ref b6), .unset, .unset, .unset] [(.int (own_t0_5 q0 p1 p2 p3 p4)), (.int p2), (.int (5 : Int32)), (.long q0), (.int (5 : Int32)), (.ref b6)])) (fun t k => XS.iload X16.her hx rfl (hb hby at_79) rfl k) ?_
  refine own_callSP (y := (⟨"com/example/gauge_links/gaugelinks/graph/LineReaderIndexOfPinLaw", "pick", "(JIIC)B"⟩ : MethodName)) (W := 2) [(.long q0), (.int (5 : Int32)), (.int p2), (.int (own_t0_5 q0 p1 p2 p3 p4))] X16 hx hZ hown (own_w1 hw) (own_w2 hw) (own_w3 hw) (own_w4 hw) (by decide) (own_c1 l Z a0 hw h16 n0 Zn16 q0 (5 : Int32) p2 (own_t0_5 q0 p1 p2 p3 p4)) (by decide) (by decide) (by decide) (by decide) (by rw [hml]; rfl) own_pd0 rfl rfl (Nat.le_of_eq rfl) (hb hby at_81) ?_
  intro T17 X17
  show own_G p e below _ T17 (mkF m 84 #[.val (.long q0), .second, .val (.int p1), .val (.int p2), .val (.int p3), .val (.int p4), .val (.int (own_t0_5 q0 p1 p2 p3 p4)), .val (.ref b6), .unset, .unset, .unset] [(.int (own_F1 q0 (5 : Int32) p2 (own_t0_5 q0 p1 p2 p3 p4))), (.int (5 : Int32)), (.ref b6)])
  refine own_bstore X17 hx hZ B16 (by decide) (by show 5 < 6; decide) (hb hby at_84) ga_b6 (Or.inr q6) ?_
  intro T18 h18 X18 K18 W18 B18
  rw [show ((own_F1 q0 (5 : Int32) p2 (own_t0_5 q0 p1 p2 p3 p4))).toInt8.toInt32 = (own_F1 q0 (5 : Int32) p2 (own_t0_5 q0 p1 p2 p3 p4)) from own_F1b _ _ _ _] at B18
  replace B18 : own_B Z h18 b6 [(own_F1 q0 (0 : Int32) p2 (own_t0_5 q0 p1 p2 p3 p4)), (own_F1 q0 (1 : Int32) p2 (own_t0_5 q0 p1 p2 p3 p4)), (own_F1 q0 (2 : Int32) p2 (own_t0_5 q0 p1 p2 p3 p4)), (own_F1 q0 (3 : Int32) p2 (own_t0_5 q0 p1 p2 p3 p4)), (own_F1 q0 (4 : Int32) p2 (own_t0_5 q0 p1 p2 p3 p4)), (own_F1 q0 (5 : Int32) p2 (own_t0_5 q0 p1 p2 p3 p4))] := B18
  have Zn18 : n0 ≤ h18.size := Nat.le_trans Zn16 K18.1
  refine own_st (f' := (mkF m 87 #[.val (.long q0), .second, .val (.int p1), .val (.int p2), .val (.int p3), .val (.int p4), .val (.int (own_t0_5 q0 p1 p2 p3 p4)), .val (.ref b6), .unset, .unset, .unset] [(.int p3)])) (fun t k => XS.iload X18.her hx rfl (hb hby at_85) rfl k) ?_
  refine own_ldcI X18 hx hZ hown (own_w5 hw) (hb hby at_87) ?_
  refine own_st (f' := (mkF m 90 #[.val (.long q0), .second, .val (.int p1), .val (.int p2), .val (.int p3), .val (.int p4), .val (.int (own_t0_5 q0 p1 p2 p3 p4)), .val (.ref b6), .unset, .unset, .unset] [(.int (p3 &&& (2147483647 : Int32)))])) (fun t k => XS.iand X18.her hx rfl (hb hby at_89) rfl k) ?_
  refine own_st (f' := (mkF m 92 #[.val (.long q0), .second, .val (.int p1), .val (.int p2), .val (.int p3), .val (.int p4), .val (.int (own_t0_5 q0 p1 p2 p3 p4)), .val (.ref b6), .unset, .unset, .unset] [(.int (7 : Int32)), (.int (p3 &&& (2147483647 : Int32)))])) (fun t k => XS.bipush X18.her hx rfl (hb hby at_90) k) ?_
  refine own_irem X18 hx (hb hby at_92) (by decide) ?_
  refine own_st (f' := (mkF m 95 #[.val (.long q0), .second, .val (.int p1), .val (.int p2), .val (.int p3), .val (.int p4), .val (.int (own_t0_5 q0 p1 p2 p3 p4)), .val (.ref b6), .val (.int (own_t0_93 q0 p1 p2 p3 p4)), .unset, .unset] [])) (fun t k => XS.istore X18.her hx rfl (hb hby at_93) rfl (l' := #[.val (.long q0), .second, .val (.int p1), .val (.int p2), .val (.int p3), .val (.int p4), .val (.int (own_t0_5 q0 p1 p2 p3 p4)), .val (.ref b6), .val (.int (own_t0_93 q0 p1 p2 p3 p4)), .unset, .unset]) rfl k) ?_
  refine own_st (f' := (mkF m 97 #[.val (.long q0), .second, .val (.int p1), .val (.int p2), .val (.int p3), .val (.int p4), .val (.int (own_t0_5 q0 p1 p2 p3 p4)), .val (.ref b6), .val (.int (own_t0_93 q0 p1 p2 p3 p4)), .unset, .unset] [(.int p4)])) (fun t k => XS.iload X18.her hx rfl (hb hby at_95) rfl k) ?_
  refine own_ldcI X18 hx hZ hown (own_w5 hw) (hb hby at_97) ?_
  refine own_st (f' := (mkF m 100 #[.val (.long q0), .second, .val (.int p1), .val (.int p2), .val (.int p3), .val (.int p4), .val (.int (own_t0_5 q0 p1 p2 p3 p4)), .val (.ref b6), .val (.int (own_t0_93 q0 p1 p2 p3 p4)), .unset, .unset] [(.int (p4 &&& (2147483647 : Int32)))])) (fun t k => XS.iand X18.her hx rfl (hb hby at_99) rfl k) ?_
  refine own_st (f' := (mkF m 102 #[.val (.long q0), .second, .val (.int p1), .val (.int p2), .val (.int p3), .val (.int p4), .val (.int (own_t0_5 q0 p1 p2 p3 p4)), .val (.ref b6), .val (.int (own_t0_93 q0 p1 p2 p3 p4)), .unset, .unset] [(.int (7 : Int32)), (.int (p4 &&& (2147483647 : Int32)))])) (fun t k => XS.bipush X18.her hx rfl (hb hby at_100) k) ?_
  refine own_irem X18 hx (hb hby at_102) (by decide) ?_
  refine own_st (f' := (mkF m 105 #[.val (.long q0), .second, .val (.int p1), .val (.int p2), .val (.int p3), .val (.int p4), .val (.int (own_t0_5 q0 p1 p2 p3 p4)), .val (.ref b6), .val (.int (own_t0_93 q0 p1 p2 p3 p4)), .val (.int (own_t0_103 q0 p1 p2 p3 p4)), .unset] [])) (fun t k => XS.istore X18.her hx rfl (hb hby at_103) rfl (l' := #[.val (.long q0), .second, .val (.int p1), .val (.int p2), .val (.int p3), .val (.int p4), .val (.int (own_t0_5 q0 p1 p2 p3 p4)), .val (.ref b6), .val (.int (own_t0_93 q0 p1 p2 p3 p4)), .val (.int (own_t0_103 q0 p1 p2 p3 p4)), .unset]) rfl k) ?_
  refine own_st (f' := (mkF m 106 #[.val (.long q0), .second, .val (.int p1), .val (.int p2), .val (.int p3), .val (.int p4), .val (.int (own_t0_5 q0 p1 p2 p3 p4)), .val (.ref b6), .val (.int (own_t0_93 q0 p1 p2 p3 p4)), .val (.int (own_t0_103 q0 p1 p2 p3 p4)), .unset] [(.int (-1 : Int32))])) (fun t k => XS.iconst X18.her hx rfl (hb hby at_105) k) ?_
  refine own_st (f' := (mkF m 108 #[.val (.long q0), .second, .val (.int p1), .val (.int p2), .val (.int p3), .val (.int p4), .val (.int (own_t0_5 q0 p1 p2 p3 p4)), .val (.ref b6), .val (.int (own_t0_93 q0 p1 p2 p3 p4)), .val (.int (own_t0_103 q0 p1 p2 p3 p4)), .val (.int (-1 : Int32))] [])) (fun t k => XS.istore X18.her hx rfl (hb hby at_106) rfl (l' := #[.val (.long q0), .second, .val (.int p1), .val (.int p2), .val (.int p3), .val (.int p4), .val (.int (own_t0_5 q0 p1 p2 p3 p4)), .val (.ref b6), .val (.int (own_t0_93 q0 p1 p2 p3 p4)), .val (.int (own_t0_103 q0 p1 p2 p3 p4)), .val (.int (-1 : Int32))]) rfl k) ?_
  refine own_st (f' := (mkF m 110 #[.val (.long q0), .second, .val (.int p1), .val (.int p2), .val (.int p3), .val (.int p4), .val (.int (own_t0_5 q0 p1 p2 p3 p4)), .val (.ref b6), .val (.int (own_t0_93 q0 p1 p2 p3 p4)), .val (.int (own_t0_103 q0 p1 p2 p3 p4)), .val (.int (-1 : Int32))] [(.ref b6)])) (fun t k => XS.aload X18.her hx rfl (hb hby at_108) rfl rfl k) ?_
  refine own_st (f' := (mkF m 112 #[.val (.long q0), .second, .val (.int p1), .val (.int p2), .val (.int p3), .val (.int p4), .val (.int (own_t0_5 q0 p1 p2 p3 p4)), .val (.ref b6), .val (.int (own_t0_93 q0 p1 p2 p3 p4)), .val (.int (own_t0_103 q0 p1 p2 p3 p4)), .val (.int (-1 : Int32))] [(.int (own_t0_5 q0 p1 p2 p3 p4)), (.ref b6)])) (fun t k => XS.iload X18.her hx rfl (hb hby at_110) rfl k) ?_
  refine own_st (f' := (mkF m 114 #[.val (.long q0), .second, .val (.int p1), .val (.int p2), .val (.int p3), .val (.int p4), .val (.int (own_t0_5 q0 p1 p2 p3 p4)), .val (.ref b6), .val (.int (own_t0_93 q0 p1 p2 p3 p4)), .val (.int (own_t0_103 q0 p1 p2 p3 p4)), .val (.int (-1 : Int32))] [(.int (own_t0_93 q0 p1 p2 p3 p4)), (.int (own_t0_5 q0 p1 p2 p3 p4)), (.ref b6)])) (fun t k => XS.iload X18.her hx rfl (hb hby at_112) rfl k) ?_
  refine own_st (f' := (mkF m 116 #[.val (.long q0), .second, .val (.int p1), .val (.int p2), .val (.int p3), .val (.int p4), .val (.int (own_t0_5 q0 p1 p2 p3 p4)), .val (.ref b6), .val (.int (own_t0_93 q0 p1 p2 p3 p4)), .val (.int (own_t0_103 q0 p1 p2 p3 p4)), .val (.int (-1 : Int32))] [(.int (own_t0_103 q0 p1 p2 p3 p4)), (.int (own_t0_93 q0 p1 p2 p3 p4)), (.int (own_t0_5 q0 p1 p2 p3 p4)), (.ref b6)])) (fun t k => XS.iload X18.her hx rfl (hb hby at_114) rfl k) ?_
  refine own_st (f' := (mkF m 117 #[.val (.long q0), .second, .val (.int p1), .val (.int p2), .val (.int p3), .val (.int p4), .val (.int (own_t0_5 q0 p1 p2 p3 p4)), .val (.ref b6), .val (.int (own_t0_93 q0 p1 p2 p3 p4)), .val (.int (own_t0_103 q0 p1 p2 p3 p4)), .val (.int (-1 : Int32))] [(.int (5 : Int32)), (.int (own_t0_103 q0 p1 p2 p3 p4)), (.int (own_t0_93 q0 p1 p2 p3 p4)), (.int (own_t0_5 q0 p1 p2 p3 p4)), (.ref b6)])) (fun t k => XS.iconst X18.her hx rfl (hb hby at_116) k) ?_
  refine own_callSP (y := (⟨"com/example/gauge_links/gaugelinks/graph/LineReaderIndexOfPinLaw", "hit", "([BCIII)Z"⟩ : MethodName)) (W := 0) [(.ref b6), (.int (own_t0_5 q0 p1 p2 p3 p4)), (.int (own_t0_93 q0 p1 p2 p3 p4)), (.int (own_t0_103 q0 p1 p2 p3 p4)), (.int (5 : Int32))] X18 hx hZ hown (own_w6 hw) (own_w7 hw) (own_w3 hw) (own_w8 hw) (by decide) (own_c2 l Z a0 hw h18 n0 Zn18 b6 (own_t0_5 q0 p1 p2 p3 p4) (own_t0_93 q0 p1 p2 p3 p4) (own_t0_103 q0 p1 p2 p3 p4) (5 : Int32) (own_F1 q0 (5 : Int32) p2 (own_t0_5 q0 p1 p2 p3 p4)) _ B18 (by decide) rfl) (by decide) (by decide) (by decide) (by decide) (by rw [hml]; rfl) own_pd1 rfl rfl (Nat.le_of_eq rfl) (hb hby at_117) ?_
  intro T19 X19
  show own_G p e below _ T19 (mkF m 120 #[.val (.long q0), .second, .val (.int p1), .val (.int p2), .val (.int p3), .val (.int p4), .val (.int (own_t0_5 q0 p1 p2 p3 p4)), .val (.ref b6), .val (.int (own_t0_93 q0 p1 p2 p3 p4)), .val (.int (own_t0_103 q0 p1 p2 p3 p4)), .val (.int (-1 : Int32))] [(.int (own_F2 (own_t0_5 q0 p1 p2 p3 p4) (own_t0_93 q0 p1 p2 p3 p4) (own_t0_103 q0 p1 p2 p3 p4) (5 : Int32) (own_F1 q0 (5 : Int32) p2 (own_t0_5 q0 p1 p2 p3 p4))))])
  suffices key : own_G p e below (own_D s (own_Q n0 h0 [] (fun v _ => v = some (.int 1))) room_1.cells room_1.slots) T19 (mkF m 126 #[.val (.long q0), .second, .val (.int p1), .val (.int p2), .val (.int p3), .val (.int p4), .val (.int (own_t0_5 q0 p1 p2 p3 p4)), .val (.ref b6), .val (.int (own_t0_93 q0 p1 p2 p3 p4)), .val (.int (own_t0_103 q0 p1 p2 p3 p4)), .val (.int (own_x120 q0 p1 p2 p3 p4))] []) by
    by_cases hc : (own_F2 (own_t0_5 q0 p1 p2 p3 p4) (own_t0_93 q0 p1 p2 p3 p4) (own_t0_103 q0 p1 p2 p3 p4) (5 : Int32) (own_F1 q0 (5 : Int32) p2 (own_t0_5 q0 p1 p2 p3 p4))) = (0 : Int32)
    · rw [show (own_x120 q0 p1 p2 p3 p4) = (-1 : Int32) from if_pos hc] at key
      refine own_st (f' := (mkF m 126 #[.val (.long q0), .second, .val (.int p1), .val (.int p2), .val (.int p3), .val (.int p4), .val (.int (own_t0_5 q0 p1 p2 p3 p4)), .val (.ref b6), .val (.int (own_t0_93 q0 p1 p2 p3 p4)), .val (.int (own_t0_103 q0 p1 p2 p3 p4)), .val (.int (-1 : Int32))] [])) (fun t k => XS.ifYes X19.her hx rfl (pc0 := 120) (pc' := 126) rfl (hb hby at_120) rfl ((if0 _ _).trans (teq hc).1) (by decide) (by decide) k) ?_
      exact key
    · rw [show (own_x120 q0 p1 p2 p3 p4) = (5 : Int32) from if_neg hc] at key
      refine own_st (f' := (mkF m 123 #[.val (.long q0), .second, .val (.int p1), .val (.int p2), .val (.int p3), .val (.int p4), .val (.int (own_t0_5 q0 p1 p2 p3 p4)), .val (.ref b6), .val (.int (own_t0_93 q0 p1 p2 p3 p4)), .val (.int (own_t0_103 q0 p1 p2 p3 p4)), .val (.int (-1 : Int32))] [])) (fun t k => XS.ifNo X19.her hx rfl (hb hby at_120) rfl ((if0 _ _).trans (feq hc).1) k) ?_
      refine own_st (f' := (mkF m 124 #[.val (.long q0), .second, .val (.int p1), .val (.int p2), .val (.int p3), .val (.int p4), .val (.int (own_t0_5 q0 p1 p2 p3 p4)), .val (.ref b6), .val (.int (own_t0_93 q0 p1 p2 p3 p4)), .val (.int (own_t0_103 q0 p1 p2 p3 p4)), .val (.int (-1 : Int32))] [(.int (5 : Int32))])) (fun t k => XS.iconst X19.her hx rfl (hb hby at_123) k) ?_
      refine own_st (f' := (mkF m 126 #[.val (.long q0), .second, .val (.int p1), .val (.int p2), .val (.int p3), .val (.int p4), .val (.int (own_t0_5 q0 p1 p2 p3 p4)), .val (.ref b6), .val (.int (own_t0_93 q0 p1 p2 p3 p4)), .val (.int (own_t0_103 q0 p1 p2 p3 p4)), .val (.int (5 : Int32))] [])) (fun t k => XS.istore X19.her hx rfl (hb hby at_124) rfl (l' := #[.val (.long q0), .second, .val (.int p1), .val (.int p2), .val (.int p3), .val (.int p4), .val (.int (own_t0_5 q0 p1 p2 p3 p4)), .val (.ref b6), .val (.int (own_t0_93 q0 p1 p2 p3 p4)), .val (.int (own_t0_103 q0 p1 p2 p3 p4)), .val (.int (5 : Int32))]) rfl k) ?_
      exact key
  refine own_st (f' := (mkF m 128 #[.val (.long q0), .second, .val (.int p1), .val (.int p2), .val (.int p3), .val (.int p4), .val (.int (own_t0_5 q0 p1 p2 p3 p4)), .val (.ref b6), .val (.int (own_t0_93 q0 p1 p2 p3 p4)), .val (.int (own_t0_103 q0 p1 p2 p3 p4)), .val (.int (own_x120 q0 p1 p2 p3 p4))] [(.ref b6)])) (fun t k => XS.aload X19.her hx rfl (hb hby at_126) rfl rfl k) ?_
  refine own_st (f' := (mkF m 130 #[.val (.long q0), .second, .val (.int p1), .val (.int p2), .val (.int p3), .val (.int p4), .val (.int (own_t0_5 q0 p1 p2 p3 p4)), .val (.ref b6), .val (.int (own_t0_93 q0 p1 p2 p3 p4)), .val (.int (own_t0_103 q0 p1 p2 p3 p4)), .val (.int (own_x120 q0 p1 p2 p3 p4))] [(.int (own_t0_5 q0 p1 p2 p3 p4)), (.ref b6)])) (fun t k => XS.iload X19.her hx rfl (hb hby at_128) rfl k) ?_
  refine own_st (f' := (mkF m 132 #[.val (.long q0), .second, .val (.int p1), .val (.int p2), .val (.int p3), .val (.int p4), .val (.int (own_t0_5 q0 p1 p2 p3 p4)), .val (.ref b6), .val (.int (own_t0_93 q0 p1 p2 p3 p4)), .val (.int (own_t0_103 q0 p1 p2 p3 p4)), .val (.int (own_x120 q0 p1 p2 p3 p4))] [(.int (own_t0_93 q0 p1 p2 p3 p4)), (.int (own_t0_5 q0 p1 p2 p3 p4)), (.ref b6)])) (fun t k => XS.iload X19.her hx rfl (hb hby at_130) rfl k) ?_
  refine own_st (f' := (mkF m 134 #[.val (.long q0), .second, .val (.int p1), .val (.int p2), .val (.int p3), .val (.int p4), .val (.int (own_t0_5 q0 p1 p2 p3 p4)), .val (.ref b6), .val (.int (own_t0_93 q0 p1 p2 p3 p4)), .val (.int (own_t0_103 q0 p1 p2 p3 p4)), .val (.int (own_x120 q0 p1 p2 p3 p4))] [(.int (own_t0_103 q0 p1 p2 p3 p4)), (.int (own_t0_93 q0 p1 p2 p3 p4)), (.int (own_t0_5 q0 p1 p2 p3 p4)), (.ref b6)])) (fun t k => XS.iload X19.her hx rfl (hb hby at_132) rfl k) ?_
  refine own_st (f' := (mkF m 135 #[.val (.long q0), .second, .val (.int p1), .val (.int p2), .val (.int p3), .val (.int p4), .val (.int (own_t0_5 q0 p1 p2 p3 p4)), .val (.ref b6), .val (.int (own_t0_93 q0 p1 p2 p3 p4)), .val (.int (own_t0_103 q0 p1 p2 p3 p4)), .val (.int (own_x120 q0 p1 p2 p3 p4))] [(.int (4 : Int32)), (.int (own_t0_103 q0 p1 p2 p3 p4)), (.int (own_t0_93 q0 p1 p2 p3 p4)), (.int (own_t0_5 q0 p1 p2 p3 p4)), (.ref b6)])) (fun t k => XS.iconst X19.her hx rfl (hb hby at_134) k) ?_
  refine own_callSP (y := (⟨"com/example/gauge_links/gaugelinks/graph/LineReaderIndexOfPinLaw", "hit", "([BCIII)Z"⟩ : MethodName)) (W := 0) [(.ref b6), (.int (own_t0_5 q0 p1 p2 p3 p4)), (.int (own_t0_93 q0 p1 p2 p3 p4)), (.int (own_t0_103 q0 p1 p2 p3 p4)), (.int (4 : Int32))] X19 hx hZ hown (own_w6 hw) (own_w7 hw) (own_w3 hw) (own_w8 hw) (by decide) (own_c2 l Z a0 hw h18 n0 Zn18 b6 (own_t0_5 q0 p1 p2 p3 p4) (own_t0_93 q0 p1 p2 p3 p4) (own_t0_103 q0 p1 p2 p3 p4) (4 : Int32) (own_F1 q0 (4 : Int32) p2 (own_t0_5 q0 p1 p2 p3 p4)) _ B18 (by decide) rfl) (by decide) (by decide) (by decide) (by decide) (by rw [hml]; rfl) own_pd1 rfl rfl (Nat.le_of_eq rfl) (hb hby at_135) ?_
  intro T20 X20
  show own_G p e below _ T20 (mkF m 138 #[.val (.long q0), .second, .val (.int p1), .val (.int p2), .val (.int p3), .val (.int p4), .val (.int (own_t0_5 q0 p1 p2 p3 p4)), .val (.ref b6), .val (.int (own_t0_93 q0 p1 p2 p3 p4)), .val (.int (own_t0_103 q0 p1 p2 p3 p4)), .val (.int (own_x120 q0 p1 p2 p3 p4))] [(.int (own_F2 (own_t0_5 q0 p1 p2 p3 p4) (own_t0_93 q0 p1 p2 p3 p4) (own_t0_103 q0 p1 p2 p3 p4) (4 : Int32) (own_F1 q0 (4 : Int32) p2 (own_t0_5 q0 p1 p2 p3 p4))))])
  suffices key : own_G p e below (own_D s (own_Q n0 h0 [] (fun v _ => v = some (.int 1))) room_1.cells room_1.slots) T20 (mkF m 144 #[.val (.long q0), .second, .val (.int p1), .val (.int p2), .val (.int p3), .val (.int p4), .val (.int (own_t0_5 q0 p1 p2 p3 p4)), .val (.ref b6), .val (.int (own_t0_93 q0 p1 p2 p3 p4)), .val (.int (own_t0_103 q0 p1 p2 p3 p4)), .val (.int (own_x138 q0 p1 p2 p3 p4))] []) by
    by_cases hc : (own_F2 (own_t0_5 q0 p1 p2 p3 p4) (own_t0_93 q0 p1 p2 p3 p4) (own_t0_103 q0 p1 p2 p3 p4) (4 : Int32) (own_F1 q0 (4 : Int32) p2 (own_t0_5 q0 p1 p2 p3 p4))) = (0 : Int32)
    · rw [show (own_x138 q0 p1 p2 p3 p4) = (own_x120 q0 p1 p2 p3 p4) from if_pos hc] at key
      refine own_st (f' := (mkF m 144 #[.val (.long q0), .second, .val (.int p1), .val (.int p2), .val (.int p3), .val (.int p4), .val (.int (own_t0_5 q0 p1 p2 p3 p4)), .val (.ref b6), .val (.int (own_t0_93 q0 p1 p2 p3 p4)), .val (.int (own_t0_103 q0 p1 p2 p3 p4)), .val (.int (own_x120 q0 p1 p2 p3 p4))] [])) (fun t k => XS.ifYes X20.her hx rfl (pc0 := 138) (pc' := 144) rfl (hb hby at_138) rfl ((if0 _ _).trans (teq hc).1) (by decide) (by decide) k) ?_
      exact key
    · rw [show (own_x138 q0 p1 p2 p3 p4) = (4 : Int32) from if_neg hc] at key
      refine own_st (f' := (mkF m 141 #[.val (.long q0), .second, .val (.int p1), .val (.int p2), .val (.int p3), .val (.int p4), .val (.int (own_t0_5 q0 p1 p2 p3 p4)), .val (.ref b6), .val (.int (own_t0_93 q0 p1 p2 p3 p4)), .val (.int (own_t0_103 q0 p1 p2 p3 p4)), .val (.int (own_x120 q0 p1 p2 p3 p4))] [])) (fun t k => XS.ifNo X20.her hx rfl (hb hby at_138) rfl ((if0 _ _).trans (feq hc).1) k) ?_
      refine own_st (f' := (mkF m 142 #[.val (.long q0), .second, .val (.int p1), .val (.int p2), .val (.int p3), .val (.int p4), .val (.int (own_t0_5 q0 p1 p2 p3 p4)), .val (.ref b6), .val (.int (own_t0_93 q0 p1 p2 p3 p4)), .val (.int (own_t0_103 q0 p1 p2 p3 p4)), .val (.int (own_x120 q0 p1 p2 p3 p4))] [(.int (4 : Int32))])) (fun t k => XS.iconst X20.her hx rfl (hb hby at_141) k) ?_
      refine own_st (f' := (mkF m 144 #[.val (.long q0), .second, .val (.int p1), .val (.int p2), .val (.int p3), .val (.int p4), .val (.int (own_t0_5 q0 p1 p2 p3 p4)), .val (.ref b6), .val (.int (own_t0_93 q0 p1 p2 p3 p4)), .val (.int (own_t0_103 q0 p1 p2 p3 p4)), .val (.int (4 : Int32))] [])) (fun t k => XS.istore X20.her hx rfl (hb hby at_142) rfl (l' := #[.val (.long q0), .second, .val (.int p1), .val (.int p2), .val (.int p3), .val (.int p4), .val (.int (own_t0_5 q0 p1 p2 p3 p4)), .val (.ref b6), .val (.int (own_t0_93 q0 p1 p2 p3 p4)), .val (.int (own_t0_103 q0 p1 p2 p3 p4)), .val (.int (4 : Int32))]) rfl k) ?_
      exact key
  refine own_st (f' := (mkF m 146 #[.val (.long q0), .second, .val (.int p1), .val (.int p2), .val (.int p3), .val (.int p4), .val (.int (own_t0_5 q0 p1 p2 p3 p4)), .val (.ref b6), .val (.int (own_t0_93 q0 p1 p2 p3 p4)), .val (.int (own_t0_103 q0 p1 p2 p3 p4)), .val (.int (own_x138 q0 p1 p2 p3 p4))] [(.ref b6)])) (fun t k => XS.aload X20.her hx rfl (hb hby at_144) rfl rfl k) ?_
  refine own_st (f' := (mkF m 148 #[.val (.long q0), .second, .val (.int p1), .val (.int p2), .val (.int p3), .val (.int p4), .val (.int (own_t0_5 q0 p1 p2 p3 p4)), .val (.ref b6), .val (.int (own_t0_93 q0 p1 p2 p3 p4)), .val (.int (own_t0_103 q0 p1 p2 p3 p4)), .val (.int (own_x138 q0 p1 p2 p3 p4))] [(.int (own_t0_5 q0 p1 p2 p3 p4)), (.ref b6)])) (fun t k => XS.iload X20.her hx rfl (hb hby at_146) rfl k) ?_
  refine own_st (f' := (mkF m 150 #[.val (.long q0), .second, .val (.int p1), .val (.int p2), .val (.int p3), .val (.int p4), .val (.int (own_t0_5 q0 p1 p2 p3 p4)), .val (.ref b6), .val (.int (own_t0_93 q0 p1 p2 p3 p4)), .val (.int (own_t0_103 q0 p1 p2 p3 p4)), .val (.int (own_x138 q0 p1 p2 p3 p4))] [(.int (own_t0_93 q0 p1 p2 p3 p4)), (.int (own_t0_5 q0 p1 p2 p3 p4)), (.ref b6)])) (fun t k => XS.iload X20.her hx rfl (hb hby at_148) rfl k) ?_
  refine own_st (f' := (mkF m 152 #[.val (.long q0), .second, .val (.int p1), .val (.int p2), .val (.int p3), .val (.int p4), .val (.int (own_t0_5 q0 p1 p2 p3 p4)), .val (.ref b6), .val (.int (own_t0_93 q0 p1 p2 p3 p4)), .val (.int (own_t0_103 q0 p1 p2 p3 p4)), .val (.int (own_x138 q0 p1 p2 p3 p4))] [(.int (own_t0_103 q0 p1 p2 p3 p4)), (.int (own_t0_93 q0 p1 p2 p3 p4)), (.int (own_t0_5 q0 p1 p2 p3 p4)), (.ref b6)])) (fun t k => XS.iload X20.her hx rfl (hb hby at_150) rfl k) ?_
  refine own_st (f' := (mkF m 153 #[.val (.long q0), .second, .val (.int p1), .val (.int p2), .val (.int p3), .val (.int p4), .val (.int (own_t0_5 q0 p1 p2 p3 p4)), .val (.ref b6), .val (.int (own_t0_93 q0 p1 p2 p3 p4)), .val (.int (own_t0_103 q0 p1 p2 p3 p4)), .val (.int (own_x138 q0 p1 p2 p3 p4))] [(.int (3 : Int32)), (.int (own_t0_103 q0 p1 p2 p3 p4)), (.int (own_t0_93 q0 p1 p2 p3 p4)), (.int (own_t0_5 q0 p1 p2 p3 p4)), (.ref b6)])) (fun t k => XS.iconst X20.her hx rfl (hb hby at_152) k) ?_
  refine own_callSP (y := (⟨"com/example/gauge_links/gaugelinks/graph/LineReaderIndexOfPinLaw", "hit", "([BCIII)Z"⟩ : MethodName)) (W := 0) [(.ref b6), (.int (own_t0_5 q0 p1 p2 p3 p4)), (.int (own_t0_93 q0 p1 p2 p3 p4)), (.int (own_t0_103 q0 p1 p2 p3 p4)), (.int (3 : Int32))] X20 hx hZ hown (own_w6 hw) (own_w7 hw) (own_w3 hw) (own_w8 hw) (by decide) (own_c2 l Z a0 hw h18 n0 Zn18 b6 (own_t0_5 q0 p1 p2 p3 p4) (own_t0_93 q0 p1 p2 p3 p4) (own_t0_103 q0 p1 p2 p3 p4) (3 : Int32) (own_F1 q0 (3 : Int32) p2 (own_t0_5 q0 p1 p2 p3 p4)) _ B18 (by decide) rfl) (by decide) (by decide) (by decide) (by decide) (by rw [hml]; rfl) own_pd1 rfl rfl (Nat.le_of_eq rfl) (hb hby at_153) ?_
  intro T21 X21
  show own_G p e below _ T21 (mkF m 156 #[.val (.long q0), .second, .val (.int p1), .val (.int p2), .val (.int p3), .val (.int p4), .val (.int (own_t0_5 q0 p1 p2 p3 p4)), .val (.ref b6), .val (.int (own_t0_93 q0 p1 p2 p3 p4)), .val (.int (own_t0_103 q0 p1 p2 p3 p4)), .val (.int (own_x138 q0 p1 p2 p3 p4))] [(.int (own_F2 (own_t0_5 q0 p1 p2 p3 p4) (own_t0_93 q0 p1 p2 p3 p4) (own_t0_103 q0 p1 p2 p3 p4) (3 : Int32) (own_F1 q0 (3 : Int32) p2 (own_t0_5 q0 p1 p2 p3 p4))))])
  suffices key : own_G p e below (own_D s (own_Q n0 h0 [] (fun v _ => v = some (.int 1))) room_1.cells room_1.slots) T21 (mkF m 162 #[.val (.long q0), .second, .val (.int p1), .val (.int p2), .val (.int p3), .val (.int p4), .val (.int (own_t0_5 q0 p1 p2 p3 p4)), .val (.ref b6), .val (.int (own_t0_93 q0 p1 p2 p3 p4)), .val (.int (own_t0_103 q0 p1 p2 p3 p4)), .val (.int (own_x156 q0 p1 p2 p3 p4))] []) by
    by_cases hc : (own_F2 (own_t0_5 q0 p1 p2 p3 p4) (own_t0_93 q0 p1 p2 p3 p4) (own_t0_103 q0 p1 p2 p3 p4) (3 : Int32) (own_F1 q0 (3 : Int32) p2 (own_t0_5 q0 p1 p2 p3 p4))) = (0 : Int32)
    · rw [show (own_x156 q0 p1 p2 p3 p4) = (own_x138 q0 p1 p2 p3 p4) from if_pos hc] at key
      refine own_st (f' := (mkF m 162 #[.val (.long q0), .second, .val (.int p1), .val (.int p2), .val (.int p3), .val (.int p4), .val (.int (own_t0_5 q0 p1 p2 p3 p4)), .val (.ref b6), .val (.int (own_t0_93 q0 p1 p2 p3 p4)), .val (.int (own_t0_103 q0 p1 p2 p3 p4)), .val (.int (own_x138 q0 p1 p2 p3 p4))] [])) (fun t k => XS.ifYes X21.her hx rfl (pc0 := 156) (pc' := 162) rfl (hb hby at_156) rfl ((if0 _ _).trans (teq hc).1) (by decide) (by decide) k) ?_
      exact key
    · rw [show (own_x156 q0 p1 p2 p3 p4) = (3 : Int32) from if_neg hc] at key
      refine own_st (f' := (mkF m 159 #[.val (.long q0), .second, .val (.int p1), .val (.int p2), .val (.int p3), .val (.int p4), .val (.int (own_t0_5 q0 p1 p2 p3 p4)), .val (.ref b6), .val (.int (own_t0_93 q0 p1 p2 p3 p4)), .val (.int (own_t0_103 q0 p1 p2 p3 p4)), .val (.int (own_x138 q0 p1 p2 p3 p4))] [])) (fun t k => XS.ifNo X21.her hx rfl (hb hby at_156) rfl ((if0 _ _).trans (feq hc).1) k) ?_
      refine own_st (f' := (mkF m 160 #[.val (.long q0), .second, .val (.int p1), .val (.int p2), .val (.int p3), .val (.int p4), .val (.int (own_t0_5 q0 p1 p2 p3 p4)), .val (.ref b6), .val (.int (own_t0_93 q0 p1 p2 p3 p4)), .val (.int (own_t0_103 q0 p1 p2 p3 p4)), .val (.int (own_x138 q0 p1 p2 p3 p4))] [(.int (3 : Int32))])) (fun t k => XS.iconst X21.her hx rfl (hb hby at_159) k) ?_
      refine own_st (f' := (mkF m 162 #[.val (.long q0), .second, .val (.int p1), .val (.int p2), .val (.int p3), .val (.int p4), .val (.int (own_t0_5 q0 p1 p2 p3 p4)), .val (.ref b6), .val (.int (own_t0_93 q0 p1 p2 p3 p4)), .val (.int (own_t0_103 q0 p1 p2 p3 p4)), .val (.int (3 : Int32))] [])) (fun t k => XS.istore X21.her hx rfl (hb hby at_160) rfl (l' := #[.val (.long q0), .second, .val (.int p1), .val (.int p2), .val (.int p3), .val (.int p4), .val (.int (own_t0_5 q0 p1 p2 p3 p4)), .val (.ref b6), .val (.int (own_t0_93 q0 p1 p2 p3 p4)), .val (.int (own_t0_103 q0 p1 p2 p3 p4)), .val (.int (3 : Int32))]) rfl k) ?_
      exact key
  refine own_st (f' := (mkF m 164 #[.val (.long q0), .second, .val (.int p1), .val (.int p2), .val (.int p3), .val (.int p4), .val (.int (own_t0_5 q0 p1 p2 p3 p4)), .val (.ref b6), .val (.int (own_t0_93 q0 p1 p2 p3 p4)), .val (.int (own_t0_103 q0 p1 p2 p3 p4)), .val (.int (own_x156 q0 p1 p2 p3 p4))] [(.ref b6)])) (fun t k => XS.aload X21.her hx rfl (hb hby at_162) rfl rfl k) ?_
  refine own_st (f' := (mkF m 166 #[.val (.long q0), .second, .val (.int p1), .val (.int p2), .val (.int p3), .val (.int p4), .val (.int (own_t0_5 q0 p1 p2 p3 p4)), .val (.ref b6), .val (.int (own_t0_93 q0 p1 p2 p3 p4)), .val (.int (own_t0_103 q0 p1 p2 p3 p4)), .val (.int (own_x156 q0 p1 p2 p3 p4))] [(.int (own_t0_5 q0 p1 p2 p3 p4)), (.ref b6)])) (fun t k => XS.iload X21.her hx rfl (hb hby at_164) rfl k) ?_
  refine own_st (f' := (mkF m 168 #[.val (.long q0), .second, .val (.int p1), .val (.int p2), .val (.int p3), .val (.int p4), .val (.int (own_t0_5 q0 p1 p2 p3 p4)), .val (.ref b6), .val (.int (own_t0_93 q0 p1 p2 p3 p4)), .val (.int (own_t0_103 q0 p1 p2 p3 p4)), .val (.int (own_x156 q0 p1 p2 p3 p4))] [(.int (own_t0_93 q0 p1 p2 p3 p4)), (.int (own_t0_5 q0 p1 p2 p3 p4)), (.ref b6)])) (fun t k => XS.iload X21.her hx rfl (hb hby at_166) rfl k) ?_
  refine own_st (f' := (mkF m 170 #[.val (.long q0), .second, .val (.int p1), .val (.int p2), .val (.int p3), .val (.int p4), .val (.int (own_t0_5 q0 p1 p2 p3 p4)), .val (.ref b6), .val (.int (own_t0_93 q0 p1 p2 p3 p4)), .val (.int (own_t0_103 q0 p1 p2 p3 p4)), .val (.int (own_x156 q0 p1 p2 p3 p4))] [(.int (own_t0_103 q0 p1 p2 p3 p4)), (.int (own_t0_93 q0 p1 p2 p3 p4)), (.int (own_t0_5 q0 p1 p2 p3 p4)), (.ref b6)])) (fun t k => XS.iload X21.her hx rfl (hb hby at_168) rfl k) ?_
  refine own_st (f' := (mkF m 171 #[.val (.long q0), .second, .val (.int p1), .val (.int p2), .val (.int p3), .val (.int p4), .val (.int (own_t0_5 q0 p1 p2 p3 p4)), .val (.ref b6), .val (.int (own_t0_93 q0 p1 p2 p3 p4)), .val (.int (own_t0_103 q0 p1 p2 p3 p4)), .val (.int (own_x156 q0 p1 p2 p3 p4))] [(.int (2 : Int32)), (.int (own_t0_103 q0 p1 p2 p3 p4)), (.int (own_t0_93 q0 p1 p2 p3 p4)), (.int (own_t0_5 q0 p1 p2 p3 p4)), (.ref b6)])) (fun t k => XS.iconst X21.her hx rfl (hb hby at_170) k) ?_
  refine own_callSP (y := (⟨"com/example/gauge_links/gaugelinks/graph/LineReaderIndexOfPinLaw", "hit", "([BCIII)Z"⟩ : MethodName)) (W := 0) [(.ref b6), (.int (own_t0_5 q0 p1 p2 p3 p4)), (.int (own_t0_93 q0 p1 p2 p3 p4)), (.int (own_t0_103 q0 p1 p2 p3 p4)), (.int (2 : Int32))] X21 hx hZ hown (own_w6 hw) (own_w7 hw) (own_w3 hw) (own_w8 hw) (by decide) (own_c2 l Z a0 hw h18 n0 Zn18 b6 (own_t0_5 q0 p1 p2 p3 p4) (own_t0_93 q0 p1 p2 p3 p4) (own_t0_103 q0 p1 p2 p3 p4) (2 : Int32) (own_F1 q0 (2 : Int32) p2 (own_t0_5 q0 p1 p2 p3 p4)) _ B18 (by decide) rfl) (by decide) (by decide) (by decide) (by decide) (by rw [hml]; rfl) own_pd1 rfl rfl (Nat.le_of_eq rfl) (hb hby at_171) ?_
  intro T22 X22
  show own_G p e below _ T22 (mkF m 174 #[.val (.long q0), .second, .val (.int p1), .val (.int p2), .val (.int p3), .val (.int p4), .val (.int (own_t0_5 q0 p1 p2 p3 p4)), .val (.ref b6), .val (.int (own_t0_93 q0 p1 p2 p3 p4)), .val (.int (own_t0_103 q0 p1 p2 p3 p4)), .val (.int (own_x156 q0 p1 p2 p3 p4))] [(.int (own_F2 (own_t0_5 q0 p1 p2 p3 p4) (own_t0_93 q0 p1 p2 p3 p4) (own_t0_103 q0 p1 p2 p3 p4) (2 : Int32) (own_F1 q0 (2 : Int32) p2 (own_t0_5 q0 p1 p2 p3 p4))))])
  suffices key : own_G p e below (own_D s (own_Q n0 h0 [] (fun v _ => v = some (.int 1))) room_1.cells room_1.slots) T22 (mkF m 180 #[.val (.long q0), .second, .val (.int p1), .val (.int p2), .val (.int p3), .val (.int p4), .val (.int (own_t0_5 q0 p1 p2 p3 p4)), .val (.ref b6), .val (.int (own_t0_93 q0 p1 p2 p3 p4)), .val (.int (own_t0_103 q0 p1 p2 p3 p4)), .val (.int (own_x174 q0 p1 p2 p3 p4))] []) by
    by_cases hc : (own_F2 (own_t0_5 q0 p1 p2 p3 p4) (own_t0_93 q0 p1 p2 p3 p4) (own_t0_103 q0 p1 p2 p3 p4) (2 : Int32) (own_F1 q0 (2 : Int32) p2 (own_t0_5 q0 p1 p2 p3 p4))) = (0 : Int32)
    · rw [show (own_x174 q0 p1 p2 p3 p4) = (own_x156 q0 p1 p2 p3 p4) from if_pos hc] at key
      refine own_st (f' := (mkF m 180 #[.val (.long q0), .second, .val (.int p1), .val (.int p2), .val (.int p3), .val (.int p4), .val (.int (own_t0_5 q0 p1 p2 p3 p4)), .val (.ref b6), .val (.int (own_t0_93 q0 p1 p2 p3 p4)), .val (.int (own_t0_103 q0 p1 p2 p3 p4)), .val (.int (own_x156 q0 p1 p2 p3 p4))] [])) (fun t k => XS.ifYes X22.her hx rfl (pc0 := 174) (pc' := 180) rfl (hb hby at_174) rfl ((if0 _ _).trans (teq hc).1) (by decide) (by decide) k) ?_
      exact key
    · rw [show (own_x174 q0 p1 p2 p3 p4) = (2 : Int32) from if_neg hc] at key
      refine own_st (f' := (mkF m 177 #[.val (.long q0), .second, .val (.int p1), .val (.int p2), .val (.int p3), .val (.int p4), .val (.int (own_t0_5 q0 p1 p2 p3 p4)), .val (.ref b6), .val (.int (own_t0_93 q0 p1 p2 p3 p4)), .val (.int (own_t0_103 q0 p1 p2 p3 p4)), .val (.int (own_x156 q0 p1 p2 p3 p4))] [])) (fun t k => XS.ifNo X22.her hx rfl (hb hby at_174) rfl ((if0 _ _).trans (feq hc).1) k) ?_
      refine own_st (f' := (mkF m 178 #[.val (.long q0), .second, .val (.int p1), .val (.int p2), .val (.int p3), .val (.int p4), .val (.int (own_t0_5 q0 p1 p2 p3 p4)), .val (.ref b6), .val (.int (own_t0_93 q0 p1 p2 p3 p4)), .val (.int (own_t0_103 q0 p1 p2 p3 p4)), .val (.int (own_x156 q0 p1 p2 p3 p4))] [(.int (2 : Int32))])) (fun t k => XS.iconst X22.her hx rfl (hb hby at_177) k) ?_
      refine own_st (f' := (mkF m 180 #[.val (.long q0), .second, .val (.int p1), .val (.int p2), .val (.int p3), .val (.int p4), .val (.int (own_t0_5 q0 p1 p2 p3 p4)), .val (.ref b6), .val (.int (own_t0_93 q0 p1 p2 p3 p4)), .val (.int (own_t0_103 q0 p1 p2 p3 p4)), .val (.int (2 : Int32))] [])) (fun t k => XS.istore X22.her hx rfl (hb hby at_178) rfl (l' := #[.val (.long q0), .second, .val (.int p1), .val (.int p2), .val (.int p3), .val (.int p4), .val (.int (own_t0_5 q0 p1 p2 p3 p4)), .val (.ref b6), .val (.int (own_t0_93 q0 p1 p2 p3 p4)), .val (.int (own_t0_103 q0 p1 p2 p3 p4)), .val (.int (2 : Int32))]) rfl k) ?_
      exact key
  refine own_st (f' := (mkF m 182 #[.val (.long q0), .second, .val (.int p1), .val (.int p2), .val (.int p3), .val (.int p4), .val (.int (own_t0_5 q0 p1 p2 p3 p4)), .val (.ref b6), .val (.int (own_t0_93 q0 p1 p2 p3 p4)), .val (.int (own_t0_103 q0 p1 p2 p3 p4)), .val (.int (own_x174 q0 p1 p2 p3 p4))] [(.ref b6)])) (fun t k => XS.aload X22.her hx rfl (hb hby at_180) rfl rfl k) ?_
  refine own_st (f' := (mkF m 184 #[.val (.long q0), .second, .val (.int p1), .val (.int p2), .val (.int p3), .val (.int p4), .val (.int (own_t0_5 q0 p1 p2 p3 p4)), .val (.ref b6), .val (.int (own_t0_93 q0 p1 p2 p3 p4)), .val (.int (own_t0_103 q0 p1 p2 p3 p4)), .val (.int (own_x174 q0 p1 p2 p3 p4))] [(.int (own_t0_5 q0 p1 p2 p3 p4)), (.ref b6)])) (fun t k => XS.iload X22.her hx rfl (hb hby at_182) rfl k) ?_
  refine own_st (f' := (mkF m 186 #[.val (.long q0), .second, .val (.int p1), .val (.int p2), .val (.int p3), .val (.int p4), .val (.int (own_t0_5 q0 p1 p2 p3 p4)), .val (.ref b6), .val (.int (own_t0_93 q0 p1 p2 p3 p4)), .val (.int (own_t0_103 q0 p1 p2 p3 p4)), .val (.int (own_x174 q0 p1 p2 p3 p4))] [(.int (own_t0_93 q0 p1 p2 p3 p4)), (.int (own_t0_5 q0 p1 p2 p3 p4)), (.ref b6)])) (fun t k => XS.iload X22.her hx rfl (hb hby at_184) rfl k) ?_
  refine own_st (f' := (mkF m 188 #[.val (.long q0), .second, .val (.int p1), .val (.int p2), .val (.int p3), .val (.int p4), .val (.int (own_t0_5 q0 p1 p2 p3 p4)), .val (.ref b6), .val (.int (own_t0_93 q0 p1 p2 p3 p4)), .val (.int (own_t0_103 q0 p1 p2 p3 p4)), .val (.int (own_x174 q0 p1 p2 p3 p4))] [(.int (own_t0_103 q0 p1 p2 p3 p4)), (.int (own_t0_93 q0 p1 p2 p3 p4)), (.int (own_t0_5 q0 p1 p2 p3 p4)), (.ref b6)])) (fun t k => XS.iload X22.her hx rfl (hb hby at_186) rfl k) ?_
  refine own_st (f' := (mkF m 189 #[.val (.long q0), .second, .val (.int p1), .val (.int p2), .val (.int p3), .val (.int p4), .val (.int (own_t0_5 q0 p1 p2 p3 p4)), .val (.ref b6), .val (.int (own_t0_93 q0 p1 p2 p3 p4)), .val (.int (own_t0_103 q0 p1 p2 p3 p4)), .val (.int (own_x174 q0 p1 p2 p3 p4))] [(.int (1 : Int32)), (.int (own_t0_103 q0 p1 p2 p3 p4)), (.int (own_t0_93 q0 p1 p2 p3 p4)), (.int (own_t0_5 q0 p1 p2 p3 p4)), (.ref b6)])) (fun t k => XS.iconst X22.her hx rfl (hb hby at_188) k) ?_
  refine own_callSP (y := (⟨"com/example/gauge_links/gaugelinks/graph/LineReaderIndexOfPinLaw", "hit", "([BCIII)Z"⟩ : MethodName)) (W := 0) [(.ref b6), (.int (own_t0_5 q0 p1 p2 p3 p4)), (.int (own_t0_93 q0 p1 p2 p3 p4)), (.int (own_t0_103 q0 p1 p2 p3 p4)), (.int (1 : Int32))] X22 hx hZ hown (own_w6 hw) (own_w7 hw) (own_w3 hw) (own_w8 hw) (by decide) (own_c2 l Z a0 hw h18 n0 Zn18 b6 (own_t0_5 q0 p1 p2 p3 p4) (own_t0_93 q0 p1 p2 p3 p4) (own_t0_103 q0 p1 p2 p3 p4) (1 : Int32) (own_F1 q0 (1 : Int32) p2 (own_t0_5 q0 p1 p2 p3 p4)) _ B18 (by decide) rfl) (by decide) (by decide) (by decide) (by decide) (by rw [hml]; rfl) own_pd1 rfl rfl (Nat.le_of_eq rfl) (hb hby at_189) ?_
  intro T23 X23
  show own_G p e below _ T23 (mkF m 192 #[.val (.long q0), .second, .val (.int p1), .val (.int p2), .val (.int p3), .val (.int p4), .val (.int (own_t0_5 q0 p1 p2 p3 p4)), .val (.ref b6), .val (.int (own_t0_93 q0 p1 p2 p3 p4)), .val (.int (own_t0_103 q0 p1 p2 p3 p4)), .val (.int (own_x174 q0 p1 p2 p3 p4))] [(.int (own_F2 (own_t0_5 q0 p1 p2 p3 p4) (own_t0_93 q0 p1 p2 p3 p4) (own_t0_103 q0 p1 p2 p3 p4) (1 : Int32) (own_F1 q0 (1 : Int32) p2 (own_t0_5 q0 p1 p2 p3 p4))))])
  suffices key : own_G p e below (own_D s (own_Q n0 h0 [] (fun v _ => v = some (.int 1))) room_1.cells room_1.slots) T23 (mkF m 198 #[.val (.long q0), .second, .val (.int p1), .val (.int p2), .val (.int p3), .val (.int p4), .val (.int (own_t0_5 q0 p1 p2 p3 p4)), .val (.ref b6), .val (.int (own_t0_93 q0 p1 p2 p3 p4)), .val (.int (own_t0_103 q0 p1 p2 p3 p4)), .val (.int (own_x192 q0 p1 p2 p3 p4))] []) by
    by_cases hc : (own_F2 (own_t0_5 q0 p1 p2 p3 p4) (own_t0_93 q0 p1 p2 p3 p4) (own_t0_103 q0 p1 p2 p3 p4) (1 : Int32) (own_F1 q0 (1 : Int32) p2 (own_t0_5 q0 p1 p2 p3 p4))) = (0 : Int32)
    · rw [show (own_x192 q0 p1 p2 p3 p4) = (own_x174 q0 p1 p2 p3 p4) from if_pos hc] at key
      refine own_st (f' := (mkF m 198 #[.val (.long q0), .second, .val (.int p1), .val (.int p2), .val (.int p3), .val (.int p4), .val (.int (own_t0_5 q0 p1 p2 p3 p4)), .val (.ref b6), .val (.int (own_t0_93 q0 p1 p2 p3 p4)), .val (.int (own_t0_103 q0 p1 p2 p3 p4)), .val (.int (own_x174 q0 p1 p2 p3 p4))] [])) (fun t k => XS.ifYes X23.her hx rfl (pc0 := 192) (pc' := 198) rfl (hb hby at_192) rfl ((if0 _ _).trans (teq hc).1) (by decide) (by decide) k) ?_
      exact key
    · rw [show (own_x192 q0 p1 p2 p3 p4) = (1 : Int32) from if_neg hc] at key
      refine own_st (f' := (mkF m 195 #[.val (.long q0), .second, .val (.int p1), .val (.int p2), .val (.int p3), .val (.int p4), .val (.int (own_t0_5 q0 p1 p2 p3 p4)), .val (.ref b6), .val (.int (own_t0_93 q0 p1 p2 p3 p4)), .val (.int (own_t0_103 q0 p1 p2 p3 p4)), .val (.int (own_x174 q0 p1 p2 p3 p4))] [])) (fun t k => XS.ifNo X23.her hx rfl (hb hby at_192) rfl ((if0 _ _).trans (feq hc).1) k) ?_
      refine own_st (f' := (mkF m 196 #[.val (.long q0), .second, .val (.int p1), .val (.int p2), .val (.int p3), .val (.int p4), .val (.int (own_t0_5 q0 p1 p2 p3 p4)), .val (.ref b6), .val (.int (own_t0_93 q0 p1 p2 p3 p4)), .val (.int (own_t0_103 q0 p1 p2 p3 p4)), .val (.int (own_x174 q0 p1 p2 p3 p4))] [(.int (1 : Int32))])) (fun t k => XS.iconst X23.her hx rfl (hb hby at_195) k) ?_
      refine own_st (f' := (mkF m 198 #[.val (.long q0), .second, .val (.int p1), .val (.int p2), .val (.int p3), .val (.int p4), .val (.int (own_t0_5 q0 p1 p2 p3 p4)), .val (.ref b6), .val (.int (own_t0_93 q0 p1 p2 p3 p4)), .val (.int (own_t0_103 q0 p1 p2 p3 p4)), .val (.int (1 : Int32))] [])) (fun t k => XS.istore X23.her hx rfl (hb hby at_196) rfl (l' := #[.val (.long q0), .second, .val (.int p1), .val (.int p2), .val (.int p3), .val (.int p4), .val (.int (own_t0_5 q0 p1 p2 p3 p4)), .val (.ref b6), .val (.int (own_t0_93 q0 p1 p2 p3 p4)), .val (.int (own_t0_103 q0 p1 p2 p3 p4)), .val (.int (1 : Int32))]) rfl k) ?_
      exact key
  refine own_st (f' := (mkF m 200 #[.val (.long q0), .second, .val (.int p1), .val (.int p2), .val (.int p3), .val (.int p4), .val (.int (own_t0_5 q0 p1 p2 p3 p4)), .val (.ref b6), .val (.int (own_t0_93 q0 p1 p2 p3 p4)), .val (.int (own_t0_103 q0 p1 p2 p3 p4)), .val (.int (own_x192 q0 p1 p2 p3 p4))] [(.ref b6)])) (fun t k => XS.aload X23.her hx rfl (hb hby at_198) rfl rfl k) ?_
  refine own_st (f' := (mkF m 202 #[.val (.long q0), .second, .val (.int p1), .val (.int p2), .val (.int p3), .val (.int p4), .val (.int (own_t0_5 q0 p1 p2 p3 p4)), .val (.ref b6), .val (.int (own_t0_93 q0 p1 p2 p3 p4)), .val (.int (own_t0_103 q0 p1 p2 p3 p4)), .val (.int (own_x192 q0 p1 p2 p3 p4))] [(.int (own_t0_5 q0 p1 p2 p3 p4)), (.ref b6)])) (fun t k => XS.iload X23.her hx rfl (hb hby at_200) rfl k) ?_
  refine own_st (f' := (mkF m 204 #[.val (.long q0), .second, .val (.int p1), .val (.int p2), .val (.int p3), .val (.int p4), .val (.int (own_t0_5 q0 p1 p2 p3 p4)), .val (.ref b6), .val (.int (own_t0_93 q0 p1 p2 p3 p4)), .val (.int (own_t0_103 q0 p1 p2 p3 p4)), .val (.int (own_x192 q0 p1 p2 p3 p4))] [(.int (own_t0_93 q0 p1 p2 p3 p4)), (.int (own_t0_5 q0 p1 p2 p3 p4)), (.ref b6)])) (fun t k => XS.iload X23.her hx rfl (hb hby at_202) rfl k) ?_
  refine own_st (f' := (mkF m 206 #[.val (.long q0), .second, .val (.int p1), .val (.int p2), .val (.int p3), .val (.int p4), .val (.int (own_t0_5 q0 p1 p2 p3 p4)), .val (.ref b6), .val (.int (own_t0_93 q0 p1 p2 p3 p4)), .val (.int (own_t0_103 q0 p1 p2 p3 p4)), .val (.int (own_x192 q0 p1 p2 p3 p4))] [(.int (own_t0_103 q0 p1 p2 p3 p4)), (.int (own_t0_93 q0 p1 p2 p3 p4)), (.int (own_t0_5 q0 p1 p2 p3 p4)), (.ref b6)])) (fun t k => XS.iload X23.her hx rfl (hb hby at_204) rfl k) ?_
  refine own_st (f' := (mkF m 207 #[.val (.long q0), .second, .val (.int p1), .val (.int p2), .val (.int p3), .val (.int p4), .val (.int (own_t0_5 q0 p1 p2 p3 p4)), .val (.ref b6), .val (.int (own_t0_93 q0 p1 p2 p3 p4)), .val (.int (own_t0_103 q0 p1 p2 p3 p4)), .val (.int (own_x192 q0 p1 p2 p3 p4))] [(.int (0 : Int32)), (.int (own_t0_103 q0 p1 p2 p3 p4)), (.int (own_t0_93 q0 p1 p2 p3 p4)), (.int (own_t0_5 q0 p1 p2 p3 p4)), (.ref b6)])) (fun t k => XS.iconst X23.her hx rfl (hb hby at_206) k) ?_
  refine own_callSP (y := (⟨"com/example/gauge_links/gaugelinks/graph/LineReaderIndexOfPinLaw", "hit", "([BCIII)Z"⟩ : MethodName)) (W := 0) [(.ref b6), (.int (own_t0_5 q0 p1 p2 p3 p4)), (.int (own_t0_93 q0 p1 p2 p3 p4)), (.int (own_t0_103 q0 p1 p2 p3 p4)), (.int (0 : Int32))] X23 hx hZ hown (own_w6 hw) (own_w7 hw) (own_w3 hw) (own_w8 hw) (by decide) (own_c2 l Z a0 hw h18 n0 Zn18 b6 (own_t0_5 q0 p1 p2 p3 p4) (own_t0_93 q0 p1 p2 p3 p4) (own_t0_103 q0 p1 p2 p3 p4) (0 : Int32) (own_F1 q0 (0 : Int32) p2 (own_t0_5 q0 p1 p2 p3 p4)) _ B18 (by decide) rfl) (by decide) (by decide) (by decide) (by decide) (by rw [hml]; rfl) own_pd1 rfl rfl (Nat.le_of_eq rfl) (hb hby at_207) ?_
  intro T24 X24
  show own_G p e below _ T24 (mkF m 210 #[.val (.long q0), .second, .val (.int p1), .val (.int p2), .val (.int p3), .val (.int p4), .val (.int (own_t0_5 q0 p1 p2 p3 p4)), .val (.ref b6), .val (.int (own_t0_93 q0 p1 p2 p3 p4)), .val (.int (own_t0_103 q0 p1 p2 p3 p4)), .val (.int (own_x192 q0 p1 p2 p3 p4))] [(.int (own_F2 (own_t0_5 q0 p1 p2 p3 p4) (own_t0_93 q0 p1 p2 p3 p4) (own_t0_103 q0 p1 p2 p3 p4) (0 : Int32) (own_F1 q0 (0 : Int32) p2 (own_t0_5 q0 p1 p2 p3 p4))))])
  suffices key : own_G p e below (own_D s (own_Q n0 h0 [] (fun v _ => v = some (.int 1))) room_1.cells room_1.slots) T24 (mkF m 216 #[.val (.long q0), .second, .val (.int p1), .val (.int p2), .val (.int p3), .val (.int p4), .val (.int (own_t0_5 q0 p1 p2 p3 p4)), .val (.ref b6), .val (.int (own_t0_93 q0 p1 p2 p3 p4)), .val (.int (own_t0_103 q0 p1 p2 p3 p4)), .val (.int (own_x210 q0 p1 p2 p3 p4))] []) by
    by_cases hc : (own_F2 (own_t0_5 q0 p1 p2 p3 p4) (own_t0_93 q0 p1 p2 p3 p4) (own_t0_103 q0 p1 p2 p3 p4) (0 : Int32) (own_F1 q0 (0 : Int32) p2 (own_t0_5 q0 p1 p2 p3 p4))) = (0 : Int32)
    · rw [show (own_x210 q0 p1 p2 p3 p4) = (own_x192 q0 p1 p2 p3 p4) from if_pos hc] at key
      refine own_st (f' := (mkF m 216 #[.val (.long q0), .second, .val (.int p1), .val (.int p2), .val (.int p3), .val (.int p4), .val (.int (own_t0_5 q0 p1 p2 p3 p4)), .val (.ref b6), .val (.int (own_t0_93 q0 p1 p2 p3 p4)), .val (.int (own_t0_103 q0 p1 p2 p3 p4)), .val (.int (own_x192 q0 p1 p2 p3 p4))] [])) (fun t k => XS.ifYes X24.her hx rfl (pc0 := 210) (pc' := 216) rfl (hb hby at_210) rfl ((if0 _ _).trans (teq hc).1) (by decide) (by decide) k) ?_
      exact key
    · rw [show (own_x210 q0 p1 p2 p3 p4) = (0 : Int32) from if_neg hc] at key
      refine own_st (f' := (mkF m 213 #[.val (.long q0), .second, .val (.int p1), .val (.int p2), .val (.int p3), .val (.int p4), .val (.int (own_t0_5 q0 p1 p2 p3 p4)), .val (.ref b6), .val (.int (own_t0_93 q0 p1 p2 p3 p4)), .val (.int (own_t0_103 q0 p1 p2 p3 p4)), .val (.int (own_x192 q0 p1 p2 p3 p4))] [])) (fun t k => XS.ifNo X24.her hx rfl (hb hby at_210) rfl ((if0 _ _).trans (feq hc).1) k) ?_
      refine own_st (f' := (mkF m 214 #[.val (.long q0), .second, .val (.int p1), .val (.int p2), .val (.int p3), .val (.int p4), .val (.int (own_t0_5 q0 p1 p2 p3 p4)), .val (.ref b6), .val (.int (own_t0_93 q0 p1 p2 p3 p4)), .val (.int (own_t0_103 q0 p1 p2 p3 p4)), .val (.int (own_x192 q0 p1 p2 p3 p4))] [(.int (0 : Int32))])) (fun t k => XS.iconst X24.her hx rfl (hb hby at_213) k) ?_
      refine own_st (f' := (mkF m 216 #[.val (.long q0), .second, .val (.int p1), .val (.int p2), .val (.int p3), .val (.int p4), .val (.int (own_t0_5 q0 p1 p2 p3 p4)), .val (.ref b6), .val (.int (own_t0_93 q0 p1 p2 p3 p4)), .val (.int (own_t0_103 q0 p1 p2 p3 p4)), .val (.int (0 : Int32))] [])) (fun t k => XS.istore X24.her hx rfl (hb hby at_214) rfl (l' := #[.val (.long q0), .second, .val (.int p1), .val (.int p2), .val (.int p3), .val (.int p4), .val (.int (own_t0_5 q0 p1 p2 p3 p4)), .val (.ref b6), .val (.int (own_t0_93 q0 p1 p2 p3 p4)), .val (.int (own_t0_103 q0 p1 p2 p3 p4)), .val (.int (0 : Int32))]) rfl k) ?_
      exact key
  refine own_st (f' := (mkF m 218 #[.val (.long q0), .second, .val (.int p1), .val (.int p2), .val (.int p3), .val (.int p4), .val (.int (own_t0_5 q0 p1 p2 p3 p4)), .val (.ref b6), .val (.int (own_t0_93 q0 p1 p2 p3 p4)), .val (.int (own_t0_103 q0 p1 p2 p3 p4)), .val (.int (own_x210 q0 p1 p2 p3 p4))] [(.ref b6)])) (fun t k => XS.aload X24.her hx rfl (hb hby at_216) rfl rfl k) ?_
  refine own_st (f' := (mkF m 220 #[.val (.long q0), .second, .val (.int p1), .val (.int p2), .val (.int p3), .val (.int p4), .val (.int (own_t0_5 q0 p1 p2 p3 p4)), .val (.ref b6), .val (.int (own_t0_93 q0 p1 p2 p3 p4)), .val (.int (own_t0_103 q0 p1 p2 p3 p4)), .val (.int (own_x210 q0 p1 p2 p3 p4))] [(.int (own_t0_5 q0 p1 p2 p3 p4)), (.ref b6)])) (fun t k => XS.iload X24.her hx rfl (hb hby at_218) rfl k) ?_
  refine own_st (f' := (mkF m 222 #[.val (.long q0), .second, .val (.int p1), .val (.int p2), .val (.int p3), .val (.int p4), .val (.int (own_t0_5 q0 p1 p2 p3 p4)), .val (.ref b6), .val (.int (own_t0_93 q0 p1 p2 p3 p4)), .val (.int (own_t0_103 q0 p1 p2 p3 p4)), .val (.int (own_x210 q0 p1 p2 p3 p4))] [(.int (own_t0_93 q0 p1 p2 p3 p4)), (.int (own_t0_5 q0 p1 p2 p3 p4)), (.ref b6)])) (fun t k => XS.iload X24.her hx rfl (hb hby at_220) rfl k) ?_
  refine own_st (f' := (mkF m 224 #[.val (.long q0), .second, .val (.int p1), .val (.int p2), .val (.int p3), .val (.int p4), .val (.int (own_t0_5 q0 p1 p2 p3 p4)), .val (.ref b6), .val (.int (own_t0_93 q0 p1 p2 p3 p4)), .val (.int (own_t0_103 q0 p1 p2 p3 p4)), .val (.int (own_x210 q0 p1 p2 p3 p4))] [(.int (own_t0_103 q0 p1 p2 p3 p4)), (.int (own_t0_93 q0 p1 p2 p3 p4)), (.int (own_t0_5 q0 p1 p2 p3 p4)), (.ref b6)])) (fun t k => XS.iload X24.her hx rfl (hb hby at_222) rfl k) ?_
  refine own_callSP (y := (⟨"com/example/gauge_links/gaugelinks/graph/LineReader", "indexOf", "([BCII)I"⟩ : MethodName)) (W := 0) [(.ref b6), (.int (own_t0_5 q0 p1 p2 p3 p4)), (.int (own_t0_93 q0 p1 p2 p3 p4)), (.int (own_t0_103 q0 p1 p2 p3 p4))] X24 hx hZ hown (own_w9 hw) (own_w10 hw) (own_w11 hw) (own_w12 hw) (by decide) (own_c3 l Z a0 hw h18 n0 Zn18 b6 (own_t0_5 q0 p1 p2 p3 p4) (own_t0_93 q0 p1 p2 p3 p4) (own_t0_103 q0 p1 p2 p3 p4) [(own_F1 q0 (0 : Int32) p2 (own_t0_5 q0 p1 p2 p3 p4)), (own_F1 q0 (1 : Int32) p2 (own_t0_5 q0 p1 p2 p3 p4)), (own_F1 q0 (2 : Int32) p2 (own_t0_5 q0 p1 p2 p3 p4)), (own_F1 q0 (3 : Int32) p2 (own_t0_5 q0 p1 p2 p3 p4)), (own_F1 q0 (4 : Int32) p2 (own_t0_5 q0 p1 p2 p3 p4)), (own_F1 q0 (5 : Int32) p2 (own_t0_5 q0 p1 p2 p3 p4))] B18 (own_rto q0 p1 p2 p3 p4).2 (own_rfr q0 p1 p2 p3 p4).1) (by decide) (by decide) (by decide) (by decide) (by rw [hml]; rfl) own_pd2 rfl rfl (Nat.le_of_eq rfl) (hb hby at_224) ?_
  intro T25 X25
  show own_G p e below _ T25 (mkF m 227 #[.val (.long q0), .second, .val (.int p1), .val (.int p2), .val (.int p3), .val (.int p4), .val (.int (own_t0_5 q0 p1 p2 p3 p4)), .val (.ref b6), .val (.int (own_t0_93 q0 p1 p2 p3 p4)), .val (.int (own_t0_103 q0 p1 p2 p3 p4)), .val (.int (own_x210 q0 p1 p2 p3 p4))] [(.int (own_ix [(own_F1 q0 (0 : Int32) p2 (own_t0_5 q0 p1 p2 p3 p4)), (own_F1 q0 (1 : Int32) p2 (own_t0_5 q0 p1 p2 p3 p4)), (own_F1 q0 (2 : Int32) p2 (own_t0_5 q0 p1 p2 p3 p4)), (own_F1 q0 (3 : Int32) p2 (own_t0_5 q0 p1 p2 p3 p4)), (own_F1 q0 (4 : Int32) p2 (own_t0_5 q0 p1 p2 p3 p4)), (own_F1 q0 (5 : Int32) p2 (own_t0_5 q0 p1 p2 p3 p4))] (own_t0_5 q0 p1 p2 p3 p4) (((own_t0_103 q0 p1 p2 p3 p4).toInt - (own_t0_93 q0 p1 p2 p3 p4).toInt).toNat) (own_t0_93 q0 p1 p2 p3 p4)))])
  refine own_st (f' := (mkF m 229 #[.val (.long q0), .second, .val (.int p1), .val (.int p2), .val (.int p3), .val (.int p4), .val (.int (own_t0_5 q0 p1 p2 p3 p4)), .val (.ref b6), .val (.int (own_t0_93 q0 p1 p2 p3 p4)), .val (.int (own_t0_103 q0 p1 p2 p3 p4)), .val (.int (own_x210 q0 p1 p2 p3 p4))] [(.int (own_x210 q0 p1 p2 p3 p4)), (.int (own_ix [(own_F1 q0 (0 : Int32) p2 (own_t0_5 q0 p1 p2 p3 p4)), (own_F1 q0 (1 : Int32) p2 (own_t0_5 q0 p1 p2 p3 p4)), (own_F1 q0 (2 : Int32) p2 (own_t0_5 q0 p1 p2 p3 p4)), (own_F1 q0 (3 : Int32) p2 (own_t0_5 q0 p1 p2 p3 p4)), (own_F1 q0 (4 : Int32) p2 (own_t0_5 q0 p1 p2 p3 p4)), (own_F1 q0 (5 : Int32) p2 (own_t0_5 q0 p1 p2 p3 p4))] (own_t0_5 q0 p1 p2 p3 p4) (((own_t0_103 q0 p1 p2 p3 p4).toInt - (own_t0_93 q0 p1 p2 p3 p4).toInt).toNat) (own_t0_93 q0 p1 p2 p3 p4)))])) (fun t k => XS.iload X25.her hx rfl (hb hby at_227) rfl k) ?_
  refine own_st (f' := (mkF m 232 #[.val (.long q0), .second, .val (.int p1), .val (.int p2), .val (.int p3), .val (.int p4), .val (.int (own_t0_5 q0 p1 p2 p3 p4)), .val (.ref b6), .val (.int (own_t0_93 q0 p1 p2 p3 p4)), .val (.int (own_t0_103 q0 p1 p2 p3 p4)), .val (.int (own_x210 q0 p1 p2 p3 p4))] [])) (fun t k => XS.icmpNo X25.her hx rfl (hb hby at_229) rfl (teq (own_fin q0 p1 p2 p3 p4 : (own_ix [(own_F1 q0 (0 : Int32) p2 (own_t0_5 q0 p1 p2 p3 p4)), (own_F1 q0 (1 : Int32) p2 (own_t0_5 q0 p1 p2 p3 p4)), (own_F1 q0 (2 : Int32) p2 (own_t0_5 q0 p1 p2 p3 p4)), (own_F1 q0 (3 : Int32) p2 (own_t0_5 q0 p1 p2 p3 p4)), (own_F1 q0 (4 : Int32) p2 (own_t0_5 q0 p1 p2 p3 p4)), (own_F1 q0 (5 : Int32) p2 (own_t0_5 q0 p1 p2 p3 p4))] (own_t0_5 q0 p1 p2 p3 p4) (((own_t0_103 q0 p1 p2 p3 p4).toInt - (own_t0_93 q0 p1 p2 p3 p4).toInt).toNat) (own_t0_93 q0 p1 p2 p3 p4)) = (own_x210 q0 p1 p2 p3 p4))).2 k) ?_
  refine own_st (f' := (mkF m 233 #[.val (.long q0), .second, .val (.int p1), .val (.int p2), .val (.int p3), .val (.int p4), .val (.int (own_t0_5 q0 p1 p2 p3 p4)), .val (.ref b6), .val (.int (own_t0_93 q0 p1 p2 p3 p4)), .val (.int (own_t0_103 q0 p1 p2 p3 p4)), .val (.int (own_x210 q0 p1 p2 p3 p4))] [(.int (1 : Int32))])) (fun t k => XS.iconst X25.her hx rfl (hb hby at_232) k) ?_
  refine own_st (f' := (mkF m 237 #[.val (.long q0), .second, .val (.int p1), .val (.int p2), .val (.int p3), .val (.int p4), .val (.int (own_t0_5 q0 p1 p2 p3 p4)), .val (.ref b6), .val (.int (own_t0_93 q0 p1 p2 p3 p4)), .val (.int (own_t0_103 q0 p1 p2 p3 p4)), .val (.int (own_x210 q0 p1 p2 p3 p4))] [(.int (1 : Int32))])) (fun t k => XS.goto X25.her hx rfl (pc0 := 233) (pc' := 237) rfl (hb hby at_233) (by decide) (by decide) k) ?_
  refine own_retN (t := .boolean) X25 hx hret hlk (by simp) (hb hby at_237) (by first | decide | omega) (by first | decide | omega) ?_
  exact congrArg (fun q => some (Value.int q)) (by decide)
set_option maxRecDepth 65536 in
set_option maxHeartbeats 40000000 in
theorem own_comes {Post : Tables → Env → Array Value → State → Outcome → State → Prop} (hpost : ∀ tb e args s v u, (limb_1_1.after args s (.returned v) u = true ∧ limb_1_2.after args s (.returned v) u = true) → FrameEnd s (.returned v) u (Jvm.fieldLocs frame_1_writes args s ++ Jvm.arrayLocs frame_1_arrays args s ++ Jvm.staticLocs frame_1_statics s) 16 128 → Post tb e args s (.returned v) u) :
    ArmFor flags0 classFile x code maxLocals ret World_1 tables_1 room_1 Calls_1 rest_1 Pre_1 Post := by
  intro l hfl _ _ p e ha hc hk s m args below hf hA hF happ hP
  obtain ⟨hcalls, hrest, hpre⟩ := hP
  obtain ⟨-, -, -, hnamed, -, -, -, hat⟩ := (Spec.applies_iff hf).mp happ
  obtain ⟨hg, hn⟩ := and_e (Cond.before_iff.mp (show (Jvm.Cond.and given_1 narrow_1).before args s = true from hpre))
  obtain ⟨g26, g27⟩ := and_e hg
  obtain ⟨g28, g29⟩ := and_e g27
  obtain ⟨g30, g31⟩ := and_e g29
  obtain ⟨g32, g33⟩ := and_e g31
  obtain ⟨g34, g35⟩ := and_e g33
  obtain ⟨w0, w1, w2, w3, w4, rfl⟩ : ∃ w0 w1 w2 w3 w4 : Value, args = #[w0, w1, w2, w3, w4] := by
    have hs : args.size = 5 := by simpa [Cond.value, given_1] using g26
    obtain ⟨L⟩ := args
    match L, hs with
    | [w0, w1, w2, w3, w4], _ => exact ⟨w0, w1, w2, w3, w4, rfl⟩
  have hw := fun d (hd : d ∈ tables_1) => atoms_spec (ws := Jvm.Cond.code x code maxLocals ret :: tables_1) hat d (List.mem_cons_of_mem _ hd)
  obtain ⟨i0, ei0⟩ := isL_v g28
  obtain rfl : w0 = (.long i0) := Option.some.inj ei0
  obtain ⟨i1, ei1⟩ := is_v g30
  obtain rfl : w1 = (.int i1) := Option.some.inj ei1
  obtain ⟨i2, ei2⟩ := is_v g32
  obtain rfl : w2 = (.int i2) := Option.some.inj ei2
  obtain ⟨i3, ei3⟩ := is_v g34
  obtain rfl : w3 = (.int i3) := Option.some.inj ei3
  obtain ⟨i4, ei4⟩ := is_v g35
  obtain rfl : w4 = (.int i4) := Option.some.inj ei4
  obtain ⟨n, o, h1, h2, h3, v, L, rfl, ⟨N, -, hv⟩, hq⟩ := own_c0 l s _ hw s.heap s.heap.size (Nat.le_refl _) i0 i1 i2 i3 i4 p e ha hc hk s m _ below hf ((Spec.applies_iff_loose hf).mp happ).1 ⟨rfl, State.Warmed39.refl s, rfl⟩ trivial
  obtain rfl : v = some (.int 1) := hv
  refine ⟨n, _, h1, h2, h3, hpost _ _ _ _ _ _ ⟨Cond.after_iff.mpr rfl, Cond.after_iff.mpr (eq_i res_at (Term.int_eval (1)) rfl)⟩ ⟨hq.1, hq.2.1, (hq.2.2.sift fun y hy => Or.inr (N y hy)).mono (by decide) (by decide)⟩⟩
theorem main_1_1 : Claimed_1_1 := own_comes fun _ _ _ _ _ _ h hF => ⟨h.1, hF⟩
theorem main_1_2 : Claimed_1_2 := own_comes fun _ _ _ _ _ _ h hF => ⟨h.2, hF⟩
end Jvm.Pilot.@@N@@
namespace Jvm.Pilot.@@N@@
open Jvm Jvm.ClassFile Sem Op Lib Jvm.Free Jvm.Stand Jvm.Pilot.@@N@@.Jvm.D
/-! MADE BY PROGRAM (witnessworld.py) out of the Statement's table words and the real class files: 10 classes; the members and pool entries that the words name. The judged class is class 1, her method 1. -/
namespace start1
open Jvm.ClassFile
def u (s : String) : CpInfo := .utf8 (stringToUtf16 s)
/-- a pool by its gaps: so many unusable entries, then the entry; so many at the end -/
def gap : Nat → List CpInfo → List CpInfo
  | 0, r => r
  | n + 1, r => .unusable :: gap n r
def poolList (es : List (Nat × CpInfo)) (last : Nat) : List CpInfo := es.foldr (fun e r => gap e.1 (e.2 :: r)) (gap last [])
def pool (es : List (Nat × CpInfo)) (last : Nat) : Array CpInfo := ⟨poolList es last⟩
def fileOf (pool : Array CpInfo) (this : Nat) (attrs : Array Attribute := #[]) (ms : Array MethodInfo := #[]) (fl : Nat := 33) (sup : Nat := 0) (ifs : Array Nat := #[]) (fds : Array FieldInfo := #[]) : ClassFile where
  minorVersion := 0
  majorVersion := 65
  constantPool := pool
  accessFlags := fl
  thisClass := this
  superClass := sup
  interfaces := ifs
  fields := fds
  methods := ms
  attributes := attrs
def plain (name : String) (sup : Option ClassId) : Class where
  name := name
  kind := .ordinary
  loader := none
  accessFlags := 33
  super := sup
  interfaces := #[]
  cf := none
  fields := #[]
  methods := #[]
  instanceTypes := #[]
  staticTypes := #[]
  resolved := #[]
  callSites := []
  init := .initialized
  statics := none
  mirror := none

def pool0 : Array CpInfo := pool [(5, u "<init>"), (0, u "()V"), (1, .class_ 10), (1, u "java/lang/Object")] 113

def k0m0 : Method := { name := "<init>", desc := "()V", sig := { parameters := [], returnType := none }, accessFlags := 1, code := none }
/-- java/lang/Object -/
def k0 : Class := { plain "java/lang/Object" none with
  accessFlags := 33
  interfaces := #[]
  cf := some (fileOf pool0 8 #[] #[{ accessFlags := 1, nameIndex := 5, descriptorIndex := 6, attributes := #[] }] 33 0 #[] #[])
  fields := #[]
  methods := #[k0m0]
  instanceTypes := #[]
  staticTypes := #[]
  resolved := Array.replicate 124 none
  statics := none }

def pool1 : Array CpInfo := pool [(2, .class_ 4), (1, u "java/lang/Object"), (0, u "<init>"), (0, u "()V"), (0, .methodref 8 9), (0, .class_ 10), (0, .nameAndType 11 12), (0, u "com/example/gauge_links/gaugelinks/graph/LineReaderIndexOfPinLaw"), (0, u "pick"), (0, u "(JIIC)B"), (0, .integer 2147483647), (0, .methodref 8 15), (0, .nameAndType 16 17), (0, u "hit"), (0, u "([BCIII)Z"), (0, .methodref 19 20), (0, .class_ 21), (0, .nameAndType 22 23), (0, u "com/example/gauge_links/gaugelinks/graph/LineReader"), (0, u "indexOf"), (0, u "([BCII)I"), (2, u "law"), (0, u "(JIIII)Z")] 5

def k1m0 : Method := { name := "<init>", desc := "()V", sig := { parameters := [], returnType := none }, accessFlags := 1, code := none }
def k1c1 : Code := { maxStack := 7, maxLocals := 11, code := code, exceptionTable := #[], attributes := #[] }
def k1m1 : Method := { name := "law", desc := "(JIIII)Z", sig := { parameters := [.long, .int, .int, .int, .int], returnType := some .boolean }, accessFlags := 9, code := some k1c1 }
def k1c2 : Code := { maxStack := 4, maxLocals := 5, code := method_3_code, exceptionTable := #[], attributes := #[] }
def k1m2 : Method := { name := "pick", desc := "(JIIC)B", sig := { parameters := [.long, .int, .int, .char], returnType := some .byte }, accessFlags := 10, code := some k1c2 }
def k1c3 : Code := { maxStack := 2, maxLocals := 5, code := method_4_code, exceptionTable := #[], attributes := #[] }
def k1m3 : Method := { name := "hit", desc := "([BCIII)Z", sig := { parameters := [(.array .byte), .char, .int, .int, .int], returnType := some .boolean }, accessFlags := 10, code := some k1c3 }
/-- com/example/gauge_links/gaugelinks/graph/LineReaderIndexOfPinLaw -/
def k1 : Class := { plain "com/example/gauge_links/gaugelinks/graph/LineReaderIndexOfPinLaw" (some 0) with
  accessFlags := 49
  interfaces := #[]
  cf := some (fileOf pool1 8 #[] #[{ accessFlags := 1, nameIndex := 5, descriptorIndex := 6, attributes := #[] }, { accessFlags := 9, nameIndex := 26, descriptorIndex := 27, attributes := #[] }, { accessFlags := 10, nameIndex := 11, descriptorIndex := 12, attributes := #[] }, { accessFlags := 10, nameIndex := 16, descriptorIndex := 17, attributes := #[] }] 49 2 #[] #[])
  fields := #[]
  methods := #[k1m0, k1m1, k1m2, k1m3]
  instanceTypes := #[]
  staticTypes := #[]
  resolved := Array.replicate 33 none
  statics := none }

def pool2 : Array CpInfo := pool [(1, .class_ 2), (0, u "java/lang/AutoCloseable"), (0, .class_ 4), (0, u "java/lang/Object")] 7

/-- java/lang/AutoCloseable -/
def k2 : Class := { plain "java/lang/AutoCloseable" (some 0) with
  accessFlags := 1537
  interfaces := #[]
  cf := some (fileOf pool2 1 #[] #[] 1537 3 #[] #[])
  fields := #[]
  methods := #[]
  instanceTypes := #[]
  staticTypes := #[]
  resolved := Array.replicate 12 none
  statics := none }

def pool3 : Array CpInfo := pool [(4, .class_ 6), (1, u "java/lang/Object"), (15, .class_ 24), (1, u "com/example/gauge_links/gaugelinks/graph/LineReader"), (0, u "decoder"), (0, u "Ljava/nio/charset/CharsetDecoder;"), (8, u "chars"), (0, u "Ljava/nio/CharBuffer;"), (3, u "buffer"), (0, u "[B"), (2, u "name"), (0, u "Ljava/lang/String;"), (2, u "in"), (0, u "Ljava/io/InputStream;"), (42, u "start"), (0, u "I"), (2, u "end"), (2, u "next"), (2, u "filled"), (2, u "indexOf"), (0, u "([BCII)I"), (2, u "drained"), (0, u "Z"), (5, u "number"), (0, u "J"), (5, u "BYTE_ORDER_MARK"), (118, .class_ 243), (0, u "java/lang/AutoCloseable"), (0, u "FIELD_BREAK"), (3, u "MAX_ARRAY_LENGTH"), (1, u "CHUNK")] 38

def k3c0 : Code := { maxStack := 2, maxLocals := 5, code := prog_17_method_16_code, exceptionTable := #[], attributes := #[] }
def k3m0 : Method := { name := "indexOf", desc := "([BCII)I", sig := { parameters := [(.array .byte), .char, .int, .int], returnType := some .int }, accessFlags := 9, code := some k3c0 }
/-- com/example/gauge_links/gaugelinks/graph/LineReader -/
def k3 : Class := { plain "com/example/gauge_links/gaugelinks/graph/LineReader" (some 0) with
  accessFlags := 49
  interfaces := #[2]
  cf := some (fileOf pool3 22 #[] #[{ accessFlags := 9, nameIndex := 105, descriptorIndex := 106, attributes := #[] }] 49 4 #[242] #[{ accessFlags := 24, nameIndex := 244, descriptorIndex := 45, attributes := #[] }, { accessFlags := 26, nameIndex := 248, descriptorIndex := 93, attributes := #[] }, { accessFlags := 26, nameIndex := 250, descriptorIndex := 93, attributes := #[] }, { accessFlags := 26, nameIndex := 123, descriptorIndex := 41, attributes := #[] }, { accessFlags := 18, nameIndex := 44, descriptorIndex := 45, attributes := #[] }, { accessFlags := 18, nameIndex := 48, descriptorIndex := 49, attributes := #[] }, { accessFlags := 18, nameIndex := 25, descriptorIndex := 26, attributes := #[] }, { accessFlags := 2, nameIndex := 35, descriptorIndex := 36, attributes := #[] }, { accessFlags := 2, nameIndex := 40, descriptorIndex := 41, attributes := #[] }, { accessFlags := 2, nameIndex := 102, descriptorIndex := 93, attributes := #[] }, { accessFlags := 2, nameIndex := 99, descriptorIndex := 93, attributes := #[] }, { accessFlags := 2, nameIndex := 92, descriptorIndex := 93, attributes := #[] }, { accessFlags := 2, nameIndex := 96, descriptorIndex := 93, attributes := #[] }, { accessFlags := 2, nameIndex := 116, descriptorIndex := 117, attributes := #[] }, { accessFlags := 2, nameIndex := 109, descriptorIndex := 110, attributes := #[] }])
  fields := #[{ name := "FIELD_BREAK", type := (.object "java/lang/String"), accessFlags := 24, slot := 0, constantValue := 0 }, { name := "MAX_ARRAY_LENGTH", type := .int, accessFlags := 26, slot := 1, constantValue := 0 }, { name := "CHUNK", type := .int, accessFlags := 26, slot := 2, constantValue := 0 }, { name := "BYTE_ORDER_MARK", type := (.array .byte), accessFlags := 26, slot := 3, constantValue := 0 }, { name := "name", type := (.object "java/lang/String"), accessFlags := 18, slot := 0, constantValue := 0 }, { name := "in", type := (.object "java/io/InputStream"), accessFlags := 18, slot := 1, constantValue := 0 }, { name := "decoder", type := (.object "java/nio/charset/CharsetDecoder"), accessFlags := 18, slot := 2, constantValue := 0 }, { name := "chars", type := (.object "java/nio/CharBuffer"), accessFlags := 2, slot := 3, constantValue := 0 }, { name := "buffer", type := (.array .byte), accessFlags := 2, slot := 4, constantValue := 0 }, { name := "filled", type := .int, accessFlags := 2, slot := 5, constantValue := 0 }, { name := "next", type := .int, accessFlags := 2, slot := 6, constantValue := 0 }, { name := "start", type := .int, accessFlags := 2, slot := 7, constantValue := 0 }, { name := "end", type := .int, accessFlags := 2, slot := 8, constantValue := 0 }, { name := "number", type := .long, accessFlags := 2, slot := 9, constantValue := 0 }, { name := "drained", type := .boolean, accessFlags := 2, slot := 10, constantValue := 0 }]
  methods := #[k3m0]
  instanceTypes := #[(.object "java/lang/String"), (.object "java/io/InputStream"), (.object "java/nio/charset/CharsetDecoder"), (.object "java/nio/CharBuffer"), (.array .byte), .int, .int, .int, .int, .long, .boolean]
  staticTypes := #[(.object "java/lang/String"), .int, .int, (.array .byte)]
  resolved := Array.replicate 289 none
  statics := none }

def pool4 : Array CpInfo := pool [(1, u "java/lang/Cloneable"), (0, .class_ 1), (0, u "java/lang/Object"), (0, .class_ 3)] 3

/-- java/lang/Cloneable -/
def k4 : Class := { plain "java/lang/Cloneable" (some 0) with
  accessFlags := 1537
  interfaces := #[]
  cf := some (fileOf pool4 2 #[] #[] 1537 4 #[] #[])
  fields := #[]
  methods := #[]
  instanceTypes := #[]
  staticTypes := #[]
  resolved := Array.replicate 8 none
  statics := none }

def pool5 : Array CpInfo := pool [(1, u "java/io/Serializable"), (0, .class_ 1), (0, u "java/lang/Object"), (0, .class_ 3)] 3

/-- java/io/Serializable -/
def k5 : Class := { plain "java/io/Serializable" (some 0) with
  accessFlags := 1537
  interfaces := #[]
  cf := some (fileOf pool5 2 #[] #[] 1537 4 #[] #[])
  fields := #[]
  methods := #[]
  instanceTypes := #[]
  staticTypes := #[]
  resolved := Array.replicate 8 none
  statics := none }

/-- the primitive byte -/
def k6 : Class := { plain "byte" none with kind := .primitive 'B', accessFlags := 0x411 }
/-- [B -/
def k7 : Class := { plain "[B" (some 0) with kind := .array 6 .byte, interfaces := #[4, 5], accessFlags := 1041 }

/-- the primitive int -/
def k8 : Class := { plain "int" none with kind := .primitive 'I', accessFlags := 0x411 }
/-- [I -/
def k9 : Class := { plain "[I" (some 0) with kind := .array 8 .int, interfaces := #[4, 5], accessFlags := 1041 }

def heap : Heap := #[]
def classes : Array Class := #[k0, k1, k2, k3, k4, k5, k6, k7, k8, k9]
def interned : List (Array UInt16 × Addr) := []
def slotsUsed : Nat := 0
def theMethod : MethodId := ⟨1, 1⟩
def args0 : Array Value := #[.long 7, .int 3, .int 5, .int 1, .int 4]
def aboutOver (below : List Frame) : State where
  vm := { classes := classes, interned := interned.toArray }
  heap := heap
  slotsUsed := slotsUsed
  threads := #[{ frames := .invoking theMethod args0 :: below }]
def below0 : List Frame := [.native { method := ⟨0, 0⟩, args := #[] }]
def about1 : State := aboutOver below0
def p0 : Program := .bare "" "" ""
def e0 : Env := launch0.env 0 0 0
theorem w_frames : about1.frames = Frame.invoking theMethod args0 :: below0 := rfl
set_option maxRecDepth 65536 in
theorem w_args : argsFit about1.vm theMethod args0 = true := by decide +kernel
set_option maxRecDepth 65536 in
theorem w_heap : heapFits about1 = true := by decide +kernel
set_option maxRecDepth 65536 in
theorem w_runnable : about1.curStatus? = some .runnable := by decide +kernel
set_option maxRecDepth 65536 in
theorem w_alone : about1.alone = true := by decide +kernel
set_option maxRecDepth 65536 in
theorem w_named : about1.methodNamed? x = some theMethod := by decide +kernel
set_option maxRecDepth 65536 in
theorem w_hears : about1.hears theMethod below0 = true := by decide +kernel
set_option maxRecDepth 65536 in
theorem w_ripe : about1.ripe theMethod args0 below0 = true := by decide +kernel
theorem w_running : about1.status = .running := rfl
set_option maxRecDepth 65536 in
theorem w_room : about1.hasRoom e0.platform room_1 = true :=
  launch0.hasRoom_least _ room_1 (by decide +kernel) (by decide +kernel) (by decide +kernel) (by decide +kernel) (by decide +kernel) (by decide +kernel)
theorem allAtoms_all (ts : List Jvm.Cond) (a : Array Jvm.Value) (st : Jvm.State) : (allAtoms ts).before a st = ts.all (fun c => c.before a st) := by
  induction ts with
  | nil => rfl
  | cons c t ih =>
    show (Jvm.Cond.and c (allAtoms t)).before a st = _
    rw [Jvm.Cond.before_and, ih, List.all_cons]
def words1 : List Jvm.Cond := Jvm.Cond.code x code maxLocals ret :: tables_1
/-- a 'code' word, met by the world's own term for the bytes: nothing is compared byte by byte -/
theorem code_word {y : MethodName} {bytes : ByteArray} {mx : Nat} {rt : Option FieldType} {a : Array Value} {s : State} {m : MethodId} {meth : Method} {c : Code} (h1 : s.methodNamed? y = some m) (h2 : s.vm.method? m = some meth) (h3 : meth.code = some c) (h4 : c.code = bytes)
    (h5 : (c.maxLocals == mx && c.exceptionTable.isEmpty && decide (c.maxStack ≤ mostOperands) && decide (meth.sig.returnType = rt) && !meth.locks && decide (parseMethodDescriptor y.desc = some meth.sig)) = true) : (Jvm.Cond.code y bytes mx rt).before a s = true := by
  simp only [Bool.and_eq_true, beq_iff_eq, Bool.not_eq_true', decide_eq_true_eq] at h5
  obtain ⟨⟨⟨⟨⟨g1, g2⟩, g3⟩, g4⟩, g5⟩, g6⟩ := h5
  simp [Cond.before, Cond.holds, Cond.value, h1, h2, h3, h4, g1, g2, g3, g4, g5, g6]
def isCode : Jvm.Cond → Bool
  | .code _ _ _ _ => true
  | _ => false
theorem all_split {L : List Jvm.Cond} {P : Jvm.Cond → Bool} (h1 : L.all (fun c => isCode c || P c) = true) (h2 : ∀ c ∈ L.filter isCode, P c = true) : L.all P = true := by
  refine List.all_eq_true.mpr fun c hc => ?_
  have h := List.all_eq_true.mp h1 c hc
  rcases Bool.eq_false_or_eq_true (isCode c) with hi | hi
  · exact h2 c (List.mem_filter.mpr ⟨hc, hi⟩)
  · simpa [hi] using h
set_option maxRecDepth 65536 in
theorem w_c0 : (Jvm.Cond.code x code maxLocals ret).before args0 about1 = true := code_word (m := ⟨1, 1⟩) (meth := k1m1) (c := k1c1) (by decide +kernel) rfl rfl rfl (by decide +kernel)
set_option maxRecDepth 65536 in
theorem w_c1 : (Jvm.Cond.code ({ cls := "com/example/gauge_links/gaugelinks/graph/LineReaderIndexOfPinLaw", name := "pick", desc := "(JIIC)B" } : Jvm.MethodName) method_3_code (5 : Nat) (Option.some Jvm.ClassFile.FieldType.byte)).before args0 about1 = true := code_word (m := ⟨1, 2⟩) (meth := k1m2) (c := k1c2) (by decide +kernel) rfl rfl rfl (by decide +kernel)
set_option maxRecDepth 65536 in
theorem w_c2 : (Jvm.Cond.code ({ cls := "com/example/gauge_links/gaugelinks/graph/LineReaderIndexOfPinLaw", name := "hit", desc := "([BCIII)Z" } : Jvm.MethodName) method_4_code (5 : Nat) (Option.some Jvm.ClassFile.FieldType.boolean)).before args0 about1 = true := code_word (m := ⟨1, 3⟩) (meth := k1m3) (c := k1c3) (by decide +kernel) rfl rfl rfl (by decide +kernel)
set_option maxRecDepth 65536 in
theorem w_c3 : (Jvm.Cond.code ({ cls := "com/example/gauge_links/gaugelinks/graph/LineReader", name := "indexOf", desc := "([BCII)I" } : Jvm.MethodName) prog_17_method_16_code (5 : Nat) (Option.some Jvm.ClassFile.FieldType.int)).before args0 about1 = true := code_word (m := ⟨3, 0⟩) (meth := k3m0) (c := k3c0) (by decide +kernel) rfl rfl rfl (by decide +kernel)
def codes1 : List Jvm.Cond := [Jvm.Cond.code x code maxLocals ret, Jvm.Cond.code ({ cls := "com/example/gauge_links/gaugelinks/graph/LineReaderIndexOfPinLaw", name := "pick", desc := "(JIIC)B" } : Jvm.MethodName) method_3_code (5 : Nat) (Option.some Jvm.ClassFile.FieldType.byte), Jvm.Cond.code ({ cls := "com/example/gauge_links/gaugelinks/graph/LineReaderIndexOfPinLaw", name := "hit", desc := "([BCIII)Z" } : Jvm.MethodName) method_4_code (5 : Nat) (Option.some Jvm.ClassFile.FieldType.boolean), Jvm.Cond.code ({ cls := "com/example/gauge_links/gaugelinks/graph/LineReader", name := "indexOf", desc := "([BCII)I" } : Jvm.MethodName) prog_17_method_16_code (5 : Nat) (Option.some Jvm.ClassFile.FieldType.int)]
set_option maxRecDepth 65536 in
theorem codes_eq : words1.filter isCode = codes1 := rfl
theorem w_codes : ∀ c ∈ words1.filter isCode, c.before args0 about1 = true := by
  rw [codes_eq]
  intro c hc
  simp only [codes1, List.mem_cons, List.not_mem_nil, or_false] at hc
  rcases hc with rfl | rfl | rfl | rfl
  · exact w_c0
  · exact w_c1
  · exact w_c2
  · exact w_c3
set_option maxRecDepth 65536 in
theorem w_t1 : words1.all (fun c => isCode c || c.before args0 about1) = true := by decide +kernel
theorem w_tables : (allAtoms (Jvm.Cond.code x code maxLocals ret :: tables_1)).before args0 about1 = true := by
  rw [allAtoms_all]
  show words1.all (fun c => c.before args0 about1) = true
  refine all_split ?_ w_codes
  rw [w_t1]
set_option maxRecDepth 65536 in
theorem w_case : (Jvm.Cond.and given_1 narrow_1).before args0 about1 = true := by decide +kernel
theorem w_applies : (headSpec (Jvm.Cond.code x code maxLocals ret :: tables_1) room_1).applies x e0.platform about1 = true :=
  (Spec.applies_iff w_frames).mpr ⟨w_running, w_runnable, w_alone, w_named, w_hears, w_ripe, w_room, w_tables⟩
theorem atStart : AtStart classFile x code maxLocals ret World_1 tables_1 room_1 Calls_1 rest_1 Pre_1 launch0 p0 e0 about1 theMethod args0 below0 :=
  ⟨lists_1, trivial, launch0.admits_env _ _ _, launch0.least_env, fairChoices_fair.cas, fairChoices_fair.clock, w_frames, w_args, w_heap, w_applies, trivial, trivial, w_case⟩
end start1
theorem witness_1 : WitnessClaimed_1 := ⟨start1.p0, start1.e0, start1.about1, start1.theMethod, start1.args0, start1.below0, start1.atStart⟩
end Jvm.Pilot.@@N@@
