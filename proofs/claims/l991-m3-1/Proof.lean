import JvmDerived
import JvmDerived.Pilot.@@N@@Statement
import JvmDerived.Pilot.@@N@@Code
set_option linter.unusedVariables false
set_option linter.unusedSimpArgs false
@@BLOCK:NumsL.lean.txt@@
namespace Jvm.Pilot.@@N@@
open Jvm Jvm.ClassFile Sem Op Lib Jvm.Free Jvm.Stand Jvm.LawKit Jvm.RoadKit Bundle Jvm.Pilot.@@N@@.Jvm.D
section Own
variable {p : Program} {l : Launch} {e : Env} {R : Room} {s : State} {m : MethodId} {args : Array Value} {below : List Frame} {meth : Method} {c : Code} {T T' : State} {locs : List Loc} {cells slots : Nat} {Z : State} {h h' h0 : Heap} {n0 : Nat} {ws : List Addr} {a0 : Array Value}
/-- what is still to be shown: from this frame the run ends as G says -/
def own_G (p : Program) (e : Env) (below : List Frame) (G : Outcome → State → Prop) (T : State) (f : JFrame) : Prop :=
  ∃ s₂ o, Steps p.tables e below (T.setTop f) s₂ ∧ s₂.status = .running ∧ Ended s₂ below o ∧ G o s₂
theorem own_st {G : Outcome → State → Prop} {f f' : JFrame} (q : ∀ t, Steps p.tables e below (T'.setTop f') t → Steps p.tables e below (T.setTop f) t) (k : own_G p e below G T' f') : own_G p e below G T f := by
  obtain ⟨a, o, r1, r2⟩ := k
  exact ⟨a, o, q a r1, r2⟩
theorem own_cast {G : Outcome → State → Prop} {f f' : JFrame} (q : f = f') (k : own_G p e below G T f') : own_G p e below G T f := q ▸ k
def own_D (s : State) (Q : Option Value → Heap → List Loc → Prop) (C S : Nat) (o : Outcome) (U : State) : Prop := ∃ v L, o = .returned v ∧ Q v U.heap L ∧ FrameEnd s o U L C S
def own_Q (n0 : Nat) (h0 : Heap) (ws : List Addr) (P : Option Value → Heap → Prop) (v : Option Value) (h : Heap) (L : List Loc) : Prop := Fr n0 L ∧ Keep h0 h ws ∧ P v h
def own_M (l : Launch) (y : MethodName) (code : ByteArray) (maxL : Nat) (ret : Option FieldType) (wd : List Jvm.Cond) (rm : Room) (Z : State) (as : Array Value) (h0 : Heap) (Q : Option Value → Heap → List Loc → Prop) : Prop :=
  MetFree l y (head1 (Jvm.Cond.code y code maxL ret :: wd) rm) (fun a U => a = as ∧ Z.Warmed39 U.vm ∧ U.heap = h0) (fun _ _ _ _ _ => True) (fun _ U o U' => ∃ v L, o = .returned v ∧ Q v U'.heap L ∧ FrameEnd U o U' L rm.cells rm.slots)
/-- where the walk stands: nothing old but ws was written -/
def own_S (p : Program) (l : Launch) (e : Env) (R : Room) (s : State) (m : MethodId) (args : Array Value) (below : List Frame) (meth : Method) (c : Code) (n0 : Nat) (h0 : Heap) (ws : List Addr) (T : State) (h : Heap) (cells slots : Nat) : Prop :=
  (∃ locs, Stand p l e R s m args below meth c T locs cells slots ∧ Fr n0 locs) ∧ T.heap = h ∧ Keep h0 h ws
theorem own_S.her (X : own_S p l e R s m args below meth c n0 h0 ws T h cells slots) : At T m c below := by
  obtain ⟨⟨_, X, _⟩, _⟩ := X; exact X.here
theorem own_body {y : MethodName} {code : ByteArray} {maxL : Nat} {ret : Option FieldType} {wd : List Jvm.Cond} {rm : Room} {as : Array Value} {P : Option Value → Heap → Prop} (hy : plainFor y = true)
    (B : ∀ (p : Program) (e : Env) (s : State) (m : MethodId) (below : List Frame) (meth : Method) (c : Code) (T : State), own_S p l e rm s m as below meth c n0 h0 ws T h0 0 0 → p.tables.exec = Jvm.exec → c.code = code → c.maxLocals = maxL → s.vm.findClass y.cls = some m.cls → meth.name = y.name → meth.sig.returnType = ret → meth.locks = false → Z.Warmed39 s.vm →
      own_G p e below (own_D s (own_Q n0 h0 ws P) rm.cells rm.slots) T (entryFrame m as maxL)) :
    own_M l y code maxL ret wd rm Z as h0 (own_Q n0 h0 ws P) := by
  refine MetFree.of_bodySF hy hisR ?_
  intro p e s m args below meth c s₁ Bd hml0 hP hK
  obtain ⟨rfl, hZ, hh⟩ := hP
  exact B p e s m below meth c s₁ ⟨⟨[], Stand.of_body Bd, Fr.nil n0⟩, by rw [← hh, Bd.state]; rfl, Keep.refl _ _⟩ Bd.exec Bd.bytes hml0 (findClass_of_methodNamed Bd.named) (name_of_methodNamed Bd.named Bd.method).1 Bd.returns Bd.notSynchronized hZ
section Leave
variable {P : Option Value → Heap → Prop} {pc : Nat} {Ls : Array Slot} {rest : List Value} {C S : Nat}
theorem own_retN {t : FieldType} {z : Int32} (X : own_S p l e R s m args below meth c n0 h0 ws T h cells slots) (hx : p.tables.exec = Jvm.exec) (hret : meth.sig.returnType = some t) (hlk : meth.locks = false) (ht : t = .boolean ∨ t = .byte ∨ t = .char ∨ t = .short) (hd : decode c.code pc = .ok (.ireturn, 1)) (hc : cells ≤ C) (hs : slots ≤ S) (hP : P (some (.int (nar t z))) h) :
    own_G p e below (own_D s (own_Q n0 h0 ws P) C S) T (mkF m pc Ls (.int z :: rest)) := by
  obtain ⟨⟨locs, X, N⟩, rfl, K⟩ := X
  obtain ⟨fs, hr, hrun, hended, hW, hsame⟩ := X.leave (v := some (.int (nar t z))) (fun h => by rw [hret] at h; cases h) hlk
  exact ⟨_, _, retN X hx hret ht hd hr, hrun, hended, _, _, rfl, ⟨N, K, hP⟩, ⟨_, rfl⟩, hW, hsame.mono hc hs⟩
theorem own_retI {z : Int32} (X : own_S p l e R s m args below meth c n0 h0 ws T h cells slots) (hx : p.tables.exec = Jvm.exec) (hret : meth.sig.returnType = some .int) (hlk : meth.locks = false) (hd : decode c.code pc = .ok (.ireturn, 1)) (hc : cells ≤ C) (hs : slots ≤ S) (hP : P (some (.int z)) h) :
    own_G p e below (own_D s (own_Q n0 h0 ws P) C S) T (mkF m pc Ls (.int z :: rest)) := by
  obtain ⟨⟨locs, X, N⟩, rfl, K⟩ := X
  obtain ⟨fs, hr, hrun, hended, hW, hsame⟩ := X.leave (v := some (.int z)) (fun h => by rw [hret] at h; cases h) hlk
  exact ⟨_, _, retOut X hx hret rfl (Or.inl ⟨rfl, Or.inl rfl, _, rfl⟩) hd hr, hrun, hended, _, _, rfl, ⟨N, K, hP⟩, ⟨_, rfl⟩, hW, hsame.mono hc hs⟩
theorem own_retL {z : Int64} (X : own_S p l e R s m args below meth c n0 h0 ws T h cells slots) (hx : p.tables.exec = Jvm.exec) (hret : meth.sig.returnType = some .long) (hlk : meth.locks = false) (hd : decode c.code pc = .ok (.lreturn, 1)) (hc : cells ≤ C) (hs : slots ≤ S) (hP : P (some (.long z)) h) :
    own_G p e below (own_D s (own_Q n0 h0 ws P) C S) T (mkF m pc Ls (.long z :: rest)) := by
  obtain ⟨⟨locs, X, N⟩, rfl, K⟩ := X
  obtain ⟨fs, hr, hrun, hended, hW, hsame⟩ := X.leave (v := some (.long z)) (fun h => by rw [hret] at h; cases h) hlk
  exact ⟨_, _, retOut X hx hret rfl (Or.inr (Or.inl ⟨rfl, rfl, _, rfl⟩)) hd hr, hrun, hended, _, _, rfl, ⟨N, K, hP⟩, ⟨_, rfl⟩, hW, hsame.mono hc hs⟩
theorem own_retA {t : FieldType} {z : Addr} (X : own_S p l e R s m args below meth c n0 h0 ws T h cells slots) (hx : p.tables.exec = Jvm.exec) (hret : meth.sig.returnType = some t) (hlk : meth.locks = false) (ht : t.isReference = true) (hn : narrow t (.ref z) = .ref z) (hd : decode c.code pc = .ok (.areturn, 1)) (hc : cells ≤ C) (hs : slots ≤ S) (hP : P (some (.ref z)) h) :
    own_G p e below (own_D s (own_Q n0 h0 ws P) C S) T (mkF m pc Ls (.ref z :: rest)) := by
  obtain ⟨⟨locs, X, N⟩, rfl, K⟩ := X
  obtain ⟨fs, hr, hrun, hended, hW, hsame⟩ := X.leave (v := some (.ref z)) (fun h => by rw [hret] at h; cases h) hlk
  exact ⟨_, _, retOut X hx hret hn (Or.inr (Or.inr (Or.inr (Or.inr ⟨rfl, ht, rfl⟩)))) hd hr, hrun, hended, _, _, rfl, ⟨N, K, hP⟩, ⟨_, rfl⟩, hW, hsame.mono hc hs⟩
theorem own_ret0 (X : own_S p l e R s m args below meth c n0 h0 ws T h cells slots) (hx : p.tables.exec = Jvm.exec) (hret : meth.sig.returnType = none) (hlk : meth.locks = false) (hd : decode c.code pc = .ok (.return_, 1)) (hc : cells ≤ C) (hs : slots ≤ S) (hP : P none h) :
    own_G p e below (own_D s (own_Q n0 h0 ws P) C S) T (mkF m pc Ls []) := by
  obtain ⟨⟨locs, X, N⟩, rfl, K⟩ := X
  obtain ⟨fs, hr, hrun, hended, hW, hsame⟩ := X.leave (v := none) (fun _ => rfl) hlk
  exact ⟨_, _, X.returnOut hx hret hd hr, hrun, hended, _, _, rfl, ⟨N, K, hP⟩, ⟨_, rfl⟩, hW, hsame.mono hc hs⟩
end Leave
section Calls
variable {y : MethodName} {bytes : ByteArray} {maxL : Nat} {ret : Option FieldType} {rm : Room} {W : Nat} {own : String} {index : Nat} {P : Option Value → Heap → Prop} {wsc : List Addr} {G : Outcome → State → Prop} {pc : Nat} {Ls : Array Slot} {rest stk : List Value} {ps : List FieldType} {r : Option FieldType}
theorem own_callS (as : List Value) (X : own_S p l e R s m args below meth c n0 h0 ws T h cells slots) (hx : p.tables.exec = Jvm.exec) (hZ : Z.Warmed39 s.vm) (hown : s.vm.findClass own = some m.cls)
    (w1 : (Jvm.Cond.methodLink own index y).before a0 Z = true) (w2 : (Jvm.Cond.static y).before a0 Z = true) (w3 : (Jvm.Cond.initialized y.cls).before a0 Z = true) (w4 : (Jvm.Cond.code y bytes maxL ret).before a0 Z = true) (hy : y.cls ≠ "java/lang/invoke/MethodHandle" ∧ y.cls ≠ "java/lang/invoke/VarHandle")
    (M : own_M l y bytes maxL ret [] rm Z as.toArray h (own_Q n0 h wsc P)) (q : ∀ x ∈ wsc, x ∈ ws ∨ h0.size ≤ x)
    (hf : rm.frames + 1 ≤ R.frames) (hl : W + (maxL + 11) + rm.locals ≤ R.locals) (hc : cells + rm.cells ≤ R.cells) (hs : slots + rm.slots ≤ R.slots) (hsize : Ls.size = c.maxLocals)
    (hlen : parseMethodDescriptor y.desc = some ⟨ps, r⟩) (hlen' : as.length = ps.length) (hstk : stk = as.reverse ++ rest) (hW : (rest.map fun v => v.category).sum ≤ W) (hd : decode c.code pc = .ok (.invokestatic index, 3))
    (k : ∀ v T' h', own_S p l e R s m args below meth c n0 h0 ws T' h' (cells + rm.cells) (slots + rm.slots) → Keep h h' wsc → P v h' → own_G p e below G T' (mkF m (pc + 3) Ls (v.toList ++ rest))) :
    own_G p e below G T (mkF m pc Ls stk) := by
  obtain ⟨⟨locs, X, N⟩, e0, K⟩ := X
  obtain ⟨v, vm₁, ⟨T', L', k', n'⟩, -, X', ⟨Lc, hQ, l', y', z'⟩, st⟩ := Jvm.LawKit.callS X hx (y := y) hown (mvT hZ w1) (mvT hZ w2) (mvT hZ w3) (mvT hZ w4) hy (backOf (W := W) M hZ w4 w3 hf hl) (g := mkF m pc Ls stk) rfl hsize (argsL := as) (rest := rest) (lenOf hlen hlen') hstk (by show 2 * 0 + _ ≤ _; rw [Nat.mul_zero, Nat.zero_add]; exact hW) hd (fun _ _ => ⟨rfl, e0, hc, hs⟩)
  dsimp only [Pt.U, Pt.locs, Pt.cells, Pt.slots] at X' l' y' z' st hQ
  subst l' y' z'
  obtain ⟨N', K', hP⟩ := hQ
  exact own_st st (k v T' _ ⟨⟨_, X', N.app N'⟩, rfl, K.trans K' q⟩ K' hP)
theorem own_callC (as : List Value) {a : Addr} (X : own_S p l e R s m args below meth c n0 h0 ws T h cells slots) (hx : p.tables.exec = Jvm.exec) (hZ : Z.Warmed39 s.vm) (hown : s.vm.findClass own = some m.cls) (hy1 : y.name = "<init>")
    (w1 : (Jvm.Cond.methodLink own index y).before a0 Z = true) (w2 : (Jvm.Cond.instanceMethod y).before a0 Z = true) (w3 : (Jvm.Cond.initialized y.cls).before a0 Z = true) (w4 : (Jvm.Cond.code y bytes maxL none).before a0 Z = true) (hy : y.cls ≠ "java/lang/invoke/MethodHandle" ∧ y.cls ≠ "java/lang/invoke/VarHandle")
    (M : own_M l y bytes maxL none [] rm Z (Value.ref a :: as).toArray h (own_Q n0 h wsc P)) (q : ∀ x ∈ wsc, x ∈ ws ∨ h0.size ≤ x)
    (hf : rm.frames + 1 ≤ R.frames) (hl : W + (maxL + 11) + rm.locals ≤ R.locals) (hc : cells + rm.cells ≤ R.cells) (hs : slots + rm.slots ≤ R.slots) (hsize : Ls.size = c.maxLocals)
    (hlen : parseMethodDescriptor y.desc = some ⟨ps, r⟩) (hlen' : as.length = ps.length) (hstk : stk = as.reverse ++ .ref a :: rest) (hW : (rest.map fun v => v.category).sum ≤ W) (hd : decode c.code pc = .ok (.invokespecial index, 3))
    (k : ∀ v T' h', own_S p l e R s m args below meth c n0 h0 ws T' h' (cells + rm.cells) (slots + rm.slots) → Keep h h' wsc → P v h' → own_G p e below G T' (mkF m (pc + 3) Ls (v.toList ++ rest))) :
    own_G p e below G T (mkF m pc Ls stk) := by
  obtain ⟨⟨locs, X, N⟩, e0, K⟩ := X
  obtain ⟨v, vm₁, ⟨T', L', k', n'⟩, -, X', ⟨Lc, hQ, l', y', z'⟩, st⟩ := X.specialBack hx (y := y) hy1 hown (mvT hZ w1) (mvT hZ w2) (mvT hZ w4) hy (backOf (W := W) M hZ w4 w3 hf hl) (g := mkF m pc Ls stk) rfl hsize (Steps.refl _) (a := a) (argsL := as) (rest := rest) (lenOf hlen hlen') hstk (by show 2 * 0 + _ ≤ _; rw [Nat.mul_zero, Nat.zero_add]; exact hW) hd (fun _ _ => ⟨rfl, e0, hc, hs⟩)
  dsimp only [Pt.U, Pt.locs, Pt.cells, Pt.slots] at X' l' y' z' st hQ
  subst l' y' z'
  obtain ⟨N', K', hP⟩ := hQ
  exact own_st (fun t => st.trans) (k v T' _ ⟨⟨_, X', N.app N'⟩, rfl, K.trans K' q⟩ K' hP)
theorem own_callV (as : List Value) {a : Addr} (X : own_S p l e R s m args below meth c n0 h0 ws T h cells slots) (hx : p.tables.exec = Jvm.exec) (hZ : Z.Warmed39 s.vm) (hown : s.vm.findClass own = some m.cls)
    (w1 : (Jvm.Cond.methodLink own index y).before a0 Z = true) (w2 : (Jvm.Cond.declares y).before a0 Z = true) (w3 : (Jvm.Cond.selects y.cls y y).before a0 Z = true) (w5 : (Jvm.Cond.instanceMethod y).before a0 Z = true) (w6 : (Jvm.Cond.initialized y.cls).before a0 Z = true) (w4 : (Jvm.Cond.code y bytes maxL ret).before a0 Z = true) (hy : y.cls ≠ "java/lang/invoke/MethodHandle" ∧ y.cls ≠ "java/lang/invoke/VarHandle")
    (E : Exa Z h a y.cls)
    (M : own_M l y bytes maxL ret [] rm Z (Value.ref a :: as).toArray h (own_Q n0 h wsc P)) (q : ∀ x ∈ wsc, x ∈ ws ∨ h0.size ≤ x)
    (hf : rm.frames + 1 ≤ R.frames) (hl : W + (maxL + 11) + rm.locals ≤ R.locals) (hc : cells + rm.cells ≤ R.cells) (hs : slots + rm.slots ≤ R.slots) (hsize : Ls.size = c.maxLocals)
    (hlen : parseMethodDescriptor y.desc = some ⟨ps, r⟩) (hlen' : as.length = ps.length) (hstk : stk = as.reverse ++ .ref a :: rest) (hW : (rest.map fun v => v.category).sum ≤ W) (hd : decode c.code pc = .ok (.invokevirtual index, 3))
    (k : ∀ v T' h', own_S p l e R s m args below meth c n0 h0 ws T' h' (cells + rm.cells) (slots + rm.slots) → Keep h h' wsc → P v h' → own_G p e below G T' (mkF m (pc + 3) Ls (v.toList ++ rest))) :
    own_G p e below G T (mkF m pc Ls stk) := by
  obtain ⟨⟨locs, X, N⟩, e0, K⟩ := X
  obtain ⟨cq, kq, qa, qb, qc⟩ := isOf hZ e0 E
  obtain ⟨v, vm₁, ⟨T', L', k', n'⟩, -, X', ⟨Lc, hQ, l', y', z'⟩, st⟩ := X.virtualBack hx (y := y) (z := y) hown (mvT hZ w1) (mvT hZ w2) (notFace_of_selects (args := #[]) (mvT hZ w3)) (mvT hZ w3) (mvT hZ w5) hy (backOf (W := W) M hZ w4 w6 hf hl) qa qc (g := mkF m pc Ls stk) rfl hsize (Steps.refl _) (argsL := as) (rest := rest) (lenOf hlen hlen') hstk (by show 2 * 0 + _ ≤ _; rw [Nat.mul_zero, Nat.zero_add]; exact hW) hd (fun _ _ => ⟨rfl, e0, hc, hs⟩)
  dsimp only [Pt.U, Pt.locs, Pt.cells, Pt.slots] at X' l' y' z' st hQ
  subst l' y' z'
  obtain ⟨N', K', hP⟩ := hQ
  exact own_st (fun t => st.trans) (k v T' _ ⟨⟨_, X', N.app N'⟩, rfl, K.trans K' q⟩ K' hP)
theorem own_initO {a : Addr} (X : own_S p l e R s m args below meth c n0 h0 ws T h cells slots) (hx : p.tables.exec = Jvm.exec) (hZ : Z.Warmed39 s.vm) (hown : s.vm.findClass own = some m.cls)
    (w1 : (Jvm.Cond.methodLink own index Lib.objectInit).before a0 Z = true) (w2 : (Jvm.Cond.instanceMethod Lib.objectInit).before a0 Z = true) (w3 : (Jvm.Cond.code Lib.objectInit ⟨#[0xb1]⟩ 1 none).before a0 Z = true)
    (hf : 1 ≤ R.frames) (hl : W + 12 ≤ R.locals) (hsize : Ls.size = c.maxLocals) (hW : (rest.map fun v => v.category).sum ≤ W) (hd : decode c.code pc = .ok (.invokespecial index, 3))
    (k : ∀ T', own_S p l e R s m args below meth c n0 h0 ws T' h cells slots → own_G p e below G T' (mkF m (pc + 3) Ls rest)) :
    own_G p e below G T (mkF m pc Ls (.ref a :: rest)) := by
  obtain ⟨⟨locs, X, N⟩, e0, K⟩ := X
  obtain ⟨T1, X1, e1, st⟩ := initO X hx hZ hown w1 w2 w3 e0 (g := mkF m pc Ls (.ref a :: rest)) rfl hsize rfl hd hf (W := W) (by show 2 * 0 + _ ≤ _; rw [Nat.mul_zero, Nat.zero_add]; exact hW) hl
  exact own_st st (k T1 ⟨⟨_, X1, N⟩, e1, K⟩)
/-- a pure callee: it returns this and leaves the heap -/
def own_P (val : Value) (h0 : Heap) (v : Option Value) (h : Heap) : Prop := v = some val ∧ h = h0
theorem own_callSP (as : List Value) {val : Value} (X : own_S p l e R s m args below meth c n0 h0 ws T h cells slots) (hx : p.tables.exec = Jvm.exec) (hZ : Z.Warmed39 s.vm) (hown : s.vm.findClass own = some m.cls)
    (w1 : (Jvm.Cond.methodLink own index y).before a0 Z = true) (w2 : (Jvm.Cond.static y).before a0 Z = true) (w3 : (Jvm.Cond.initialized y.cls).before a0 Z = true) (w4 : (Jvm.Cond.code y bytes maxL ret).before a0 Z = true) (hy : y.cls ≠ "java/lang/invoke/MethodHandle" ∧ y.cls ≠ "java/lang/invoke/VarHandle")
    (M : own_M l y bytes maxL ret [] rm Z as.toArray h (own_Q n0 h [] (own_P val h)))
    (hf : rm.frames + 1 ≤ R.frames) (hl : W + (maxL + 11) + rm.locals ≤ R.locals) (hc : cells + rm.cells ≤ R.cells) (hs : slots + rm.slots ≤ R.slots) (hsize : Ls.size = c.maxLocals)
    (hlen : parseMethodDescriptor y.desc = some ⟨ps, r⟩) (hlen' : as.length = ps.length) (hstk : stk = as.reverse ++ rest) (hW : (rest.map fun v => v.category).sum ≤ W) (hd : decode c.code pc = .ok (.invokestatic index, 3))
    (k : ∀ T', own_S p l e R s m args below meth c n0 h0 ws T' h (cells + rm.cells) (slots + rm.slots) → own_G p e below G T' (mkF m (pc + 3) Ls (val :: rest))) :
    own_G p e below G T (mkF m pc Ls stk) :=
  own_callS as X hx hZ hown w1 w2 w3 w4 hy M (fun _ q => nomatch q) hf hl hc hs hsize hlen hlen' hstk hW hd fun v T' h' X' _ hv => by
    obtain ⟨hv, hh⟩ := hv
    rw [hv]; rw [hh] at X'
    exact k T' X'
/-- a callee that returns nothing and leaves the heap -/
def own_N (h0 : Heap) (v : Option Value) (h : Heap) : Prop := v = none ∧ h = h0
theorem own_callCN (as : List Value) {a : Addr} (X : own_S p l e R s m args below meth c n0 h0 ws T h cells slots) (hx : p.tables.exec = Jvm.exec) (hZ : Z.Warmed39 s.vm) (hown : s.vm.findClass own = some m.cls) (hy1 : y.name = "<init>")
    (w1 : (Jvm.Cond.methodLink own index y).before a0 Z = true) (w2 : (Jvm.Cond.instanceMethod y).before a0 Z = true) (w3 : (Jvm.Cond.initialized y.cls).before a0 Z = true) (w4 : (Jvm.Cond.code y bytes maxL none).before a0 Z = true) (hy : y.cls ≠ "java/lang/invoke/MethodHandle" ∧ y.cls ≠ "java/lang/invoke/VarHandle")
    (M : own_M l y bytes maxL none [] rm Z (Value.ref a :: as).toArray h (own_Q n0 h [] (own_N h)))
    (hf : rm.frames + 1 ≤ R.frames) (hl : W + (maxL + 11) + rm.locals ≤ R.locals) (hc : cells + rm.cells ≤ R.cells) (hs : slots + rm.slots ≤ R.slots) (hsize : Ls.size = c.maxLocals)
    (hlen : parseMethodDescriptor y.desc = some ⟨ps, r⟩) (hlen' : as.length = ps.length) (hstk : stk = as.reverse ++ .ref a :: rest) (hW : (rest.map fun v => v.category).sum ≤ W) (hd : decode c.code pc = .ok (.invokespecial index, 3))
    (k : ∀ T', own_S p l e R s m args below meth c n0 h0 ws T' h (cells + rm.cells) (slots + rm.slots) → own_G p e below G T' (mkF m (pc + 3) Ls rest)) :
    own_G p e below G T (mkF m pc Ls stk) :=
  own_callC as X hx hZ hown hy1 w1 w2 w3 w4 hy M (fun _ q => nomatch q) hf hl hc hs hsize hlen hlen' hstk hW hd fun v T' h' X' _ hv => by
    obtain ⟨hv, hh⟩ := hv
    rw [hv]; rw [hh] at X'
    exact k T' X'
theorem own_callVP (as : List Value) {val : Value} {a : Addr} (X : own_S p l e R s m args below meth c n0 h0 ws T h cells slots) (hx : p.tables.exec = Jvm.exec) (hZ : Z.Warmed39 s.vm) (hown : s.vm.findClass own = some m.cls)
    (w1 : (Jvm.Cond.methodLink own index y).before a0 Z = true) (w2 : (Jvm.Cond.declares y).before a0 Z = true) (w3 : (Jvm.Cond.selects y.cls y y).before a0 Z = true) (w5 : (Jvm.Cond.instanceMethod y).before a0 Z = true) (w6 : (Jvm.Cond.initialized y.cls).before a0 Z = true) (w4 : (Jvm.Cond.code y bytes maxL ret).before a0 Z = true) (hy : y.cls ≠ "java/lang/invoke/MethodHandle" ∧ y.cls ≠ "java/lang/invoke/VarHandle")
    (E : Exa Z h a y.cls)
    (M : own_M l y bytes maxL ret [] rm Z (Value.ref a :: as).toArray h (own_Q n0 h [] (own_P val h)))
    (hf : rm.frames + 1 ≤ R.frames) (hl : W + (maxL + 11) + rm.locals ≤ R.locals) (hc : cells + rm.cells ≤ R.cells) (hs : slots + rm.slots ≤ R.slots) (hsize : Ls.size = c.maxLocals)
    (hlen : parseMethodDescriptor y.desc = some ⟨ps, r⟩) (hlen' : as.length = ps.length) (hstk : stk = as.reverse ++ .ref a :: rest) (hW : (rest.map fun v => v.category).sum ≤ W) (hd : decode c.code pc = .ok (.invokevirtual index, 3))
    (k : ∀ T', own_S p l e R s m args below meth c n0 h0 ws T' h (cells + rm.cells) (slots + rm.slots) → own_G p e below G T' (mkF m (pc + 3) Ls (val :: rest))) :
    own_G p e below G T (mkF m pc Ls stk) :=
  own_callV as X hx hZ hown w1 w2 w3 w5 w6 w4 hy E M (fun _ q => nomatch q) hf hl hc hs hsize hlen hlen' hstk hW hd fun v T' h' X' _ hv => by
    obtain ⟨hv, hh⟩ := hv
    rw [hv]; rw [hh] at X'
    exact k T' X'
theorem own_irem {x z : Int32} (X : own_S p l e R s m args below meth c n0 h0 ws T h cells slots) (hx : p.tables.exec = Jvm.exec) (hd : decode c.code pc = .ok (.irem, 1)) (hz : z ≠ 0)
    (k : own_G p e below G T (mkF m (pc + 1) Ls (.int (x % z) :: rest))) : own_G p e below G T (mkF m pc Ls (.int z :: .int x :: rest)) :=
  own_st (fun t k => XS.irem X.her hx rfl hd rfl hz (by rw [irem_eq_mod]; exact k)) k
theorem own_lrem {x z : Int64} (X : own_S p l e R s m args below meth c n0 h0 ws T h cells slots) (hx : p.tables.exec = Jvm.exec) (hd : decode c.code pc = .ok (.lrem, 1)) (hz : z ≠ 0)
    (k : own_G p e below G T (mkF m (pc + 1) Ls (.long (x % z) :: rest))) : own_G p e below G T (mkF m pc Ls (.long z :: .long x :: rest)) :=
  own_st (fun t k => XS.lrem X.her hx rfl hd rfl hz (by rw [lrem_mod]; exact k)) k
theorem own_b2 (x : Int32) : x.toInt8.toInt32.toInt8.toInt32 = x.toInt8.toInt32 := by simp
end Calls
section Heap
variable {own : String} {index : Nat} {G : Outcome → State → Prop} {pc : Nat} {Ls : Array Slot} {rest : List Value}
theorem own_ldcI {v : Int32} (X : own_S p l e R s m args below meth c n0 h0 ws T h cells slots) (hx : p.tables.exec = Jvm.exec) (hZ : Z.Warmed39 s.vm) (hown : s.vm.findClass own = some m.cls) (w : (Jvm.Cond.constant own index v).before a0 Z = true) (hd : decode c.code pc = .ok (.ldc index, 2))
    (k : own_G p e below G T (mkF m (pc + 2) Ls (.int v :: rest))) : own_G p e below G T (mkF m pc Ls rest) := by
  obtain ⟨⟨locs, X, N⟩, e0, K⟩ := X
  exact own_st (X.ldcInt hx hown (mvT hZ w) (g := mkF m pc Ls rest) rfl hd) k
theorem own_ldcL {v : Int64} (X : own_S p l e R s m args below meth c n0 h0 ws T h cells slots) (hx : p.tables.exec = Jvm.exec) (hZ : Z.Warmed39 s.vm) (hown : s.vm.findClass own = some m.cls) (w : (Jvm.Cond.constantLong own index v).before a0 Z = true) (hd : decode c.code pc = .ok (.ldc2_w index, 3))
    (k : own_G p e below G T (mkF m (pc + 3) Ls (.long v :: rest))) : own_G p e below G T (mkF m pc Ls rest) := by
  obtain ⟨⟨locs, X, N⟩, e0, K⟩ := X
  exact own_st (X.ldc2Long hx hown (mvT hZ w) (g := mkF m pc Ls rest) rfl hd) k
theorem own_getF {a : Addr} {C n d : String} {v : Value} (X : own_S p l e R s m args below meth c n0 h0 ws T h cells slots) (hx : p.tables.exec = Jvm.exec) (hZ : Z.Warmed39 s.vm) (hown : s.vm.findClass own = some m.cls) (w : (Jvm.Cond.fieldLink own index C n d).before a0 Z = true) (F : Fld Z h a C n d v) (hd : decode c.code pc = .ok (.getfield index, 3))
    (k : ∀ T', own_S p l e R s m args below meth c n0 h0 ws T' h cells slots → own_G p e below G T' (mkF m (pc + 3) Ls (v :: rest))) : own_G p e below G T (mkF m pc Ls (.ref a :: rest)) := by
  obtain ⟨⟨locs, X, N⟩, e0, K⟩ := X
  obtain ⟨T1, X1, e1, st⟩ := getF X hx hZ hown (host := "") (Or.inl w) Via.refl e0 F (g := mkF m pc Ls (.ref a :: rest)) rfl rfl hd
  exact own_st st (k T1 ⟨⟨_, X1, N⟩, e1, K⟩)
theorem own_getS {C n d : String} {v : Value} (X : own_S p l e R s m args below meth c n0 h0 ws T h cells slots) (hx : p.tables.exec = Jvm.exec) (hZ : Z.Warmed39 s.vm) (hown : s.vm.findClass own = some m.cls) (w : (Jvm.Cond.fieldLink own index C n d).before a0 Z = true) (F : Sta Z h C n d v) (hd : decode c.code pc = .ok (.getstatic index, 3))
    (k : ∀ T', own_S p l e R s m args below meth c n0 h0 ws T' h cells slots → own_G p e below G T' (mkF m (pc + 3) Ls (v :: rest))) : own_G p e below G T (mkF m pc Ls rest) := by
  obtain ⟨⟨locs, X, N⟩, e0, K⟩ := X
  obtain ⟨T1, X1, e1, st⟩ := getS2 X hx hZ hown (host := "") (Or.inl w) Via.refl e0 F (g := mkF m pc Ls rest) rfl hd
  exact own_st st (k T1 ⟨⟨_, X1, N⟩, e1, K⟩)
theorem own_putF {a : Addr} {C n d : String} {v old : Value} {kk : Nat} {ty : FieldType} (X : own_S p l e R s m args below meth c n0 h0 ws T h cells slots) (hx : p.tables.exec = Jvm.exec) (hZ : Z.Warmed39 s.vm) (hown : s.vm.findClass own = some m.cls) (w : (Jvm.Cond.fieldLink own index C n d).before a0 Z = true) (F : Fld Z h a C n d old) (E : Exa Z h a C)
    (L : (Jvm.Cond.lays C C n d).before a0 Z = true ∨ ((Jvm.Cond.laysFinal C C n d).before a0 Z = true ∧ own = C ∧ meth.name = "<init>")) (wi : (Jvm.Cond.instantiable C kk).before a0 Z = true) (hty : parseFieldDescriptor d = some ty) (hn : narrow ty v = v) (hf : fits ty v = true) (hd : decode c.code pc = .ok (.putfield index, 3)) (ga : n0 ≤ a) (qa : a ∈ ws ∨ h0.size ≤ a)
    (k : ∀ T' h', own_S p l e R s m args below meth c n0 h0 ws T' h' cells slots → Wr h h' a (Jvm.RoadKit.slotOf Z C n d) v → Fld Z h' a C n d v → Exa Z h' a C → own_G p e below G T' (mkF m (pc + 3) Ls rest)) : own_G p e below G T (mkF m pc Ls (v :: .ref a :: rest)) := by
  obtain ⟨⟨locs, X, N⟩, e0, K⟩ := X
  obtain ⟨T1, h1, X1, e1, W1, st⟩ := putF X hx hZ hown (host := "") (Or.inl w) Via.refl e0 F E L wi hty hn hf (g := mkF m pc Ls (v :: .ref a :: rest)) rfl rfl hd
  exact own_st st (k T1 h1 ⟨⟨_, X1, Fr.snoc X1 N ga⟩, e1, K.wr W1 qa⟩ W1 (F.same W1) (E.wr W1))
theorem own_newO {C : String} {kk : Nat} (X : own_S p l e R s m args below meth c n0 h0 ws T h cells slots) (hx : p.tables.exec = Jvm.exec) (hZ : Z.Warmed39 s.vm) (hown : s.vm.findClass own = some m.cls) (w : (Jvm.Cond.classLink own index C).before a0 Z = true) (wi : (Jvm.Cond.instantiable C kk).before a0 Z = true) (wz : (Jvm.Cond.initialized C).before a0 Z = true) (hd : decode c.code pc = .ok (.new index, 3)) (hc : cells + 1 ≤ R.cells) (hl : slots + kk ≤ R.slots)
    (k : ∀ T' h' (b : Addr), b = h.size → h0.size ≤ b → own_S p l e R s m args below meth c n0 h0 ws T' h' (cells + 1) (slots + kk) → Ext h h' → Exa Z h' b C → (∀ {O nm d : String} {ty : FieldType}, Laid Z a0 C O nm d → parseFieldDescriptor d = some ty → Fld Z h' b O nm d (defaultValue ty)) → own_G p e below G T' (mkF m (pc + 3) Ls (.ref b :: rest))) : own_G p e below G T (mkF m pc Ls rest) := by
  obtain ⟨⟨locs, X, N⟩, e0, K⟩ := X
  obtain ⟨T1, h1, X1, e1, E1, A1, D1, -, st⟩ := newO X hx hZ hown w wi wz e0 (g := mkF m pc Ls rest) rfl hd hc hl
  exact own_st st (k T1 h1 _ rfl K.1 ⟨⟨_, X1, N⟩, e1, K.ext E1⟩ E1 A1 D1)
/-- a byte array with these elements -/
def own_B (Z : State) (h : Heap) (a : Addr) (L : List Int32) : Prop := ∃ c : Cell, Arr Z h a c .byte ∧ c.slots = (L.map Value.int).toArray
theorem own_B.lt {a : Addr} {L : List Int32} (B : own_B Z h a L) : a < h.size := by obtain ⟨c, A, _⟩ := B; exact A.lt
theorem own_B.ext {a : Addr} {L : List Int32} (B : own_B Z h a L) (E : Ext h h') : own_B Z h' a L := by obtain ⟨c, A, q⟩ := B; exact ⟨c, A.ext E, q⟩
theorem own_B.other {a b : Addr} {L : List Int32} {sl : Nat} {v : Value} (B : own_B Z h b L) (W : Wr h h' a sl v) (q : b ≠ a) : own_B Z h' b L := by obtain ⟨c, A, r⟩ := B; exact ⟨c, A.other W q, r⟩
theorem own_B.keep {a : Addr} {L : List Int32} (B : own_B Z h a L) (K : Keep h h' ws) (q : a ∉ ws) : own_B Z h' a L := by obtain ⟨c, A, r⟩ := B; exact ⟨c, ⟨K.2.1 a c A.1 q, A.2⟩, r⟩
theorem own_bload {a : Addr} {L : List Int32} {j v : Int32} (X : own_S p l e R s m args below meth c n0 h0 ws T h cells slots) (hx : p.tables.exec = Jvm.exec) (hZ : Z.Warmed39 s.vm) (B : own_B Z h a L) (hj : ¬ j < 0) (hv : L[j.toNatClampNeg]? = some v) (hd : decode c.code pc = .ok (.baload, 1))
    (k : own_G p e below G T (mkF m (pc + 1) Ls (.int v :: rest))) : own_G p e below G T (mkF m pc Ls (.int j :: .ref a :: rest)) := by
  obtain ⟨⟨locs, X, N⟩, e0, K⟩ := X
  obtain ⟨cl, A, q⟩ := B
  have h1 : cl.slots[j.toNatClampNeg]? = some (.int v) := by rw [q]; simp [hv]
  have h2 : ¬ (j < 0 ∨ cl.slots.size ≤ j.toNatClampNeg) := fun z => z.elim hj fun z => by
    have := (Array.getElem?_eq_some_iff.mp h1).1
    omega
  exact own_st (X.baloadBytes hx (j := j) (v := .int v) (by rw [e0]; exact A.1) (State.isArrayOf_alike hZ.alike A.2.1) A.2.2 h2 h1 (g := mkF m pc Ls (.int j :: .ref a :: rest)) rfl rfl hd) k
theorem own_bstore {a : Addr} {L : List Int32} {j x : Int32} (X : own_S p l e R s m args below meth c n0 h0 ws T h cells slots) (hx : p.tables.exec = Jvm.exec) (hZ : Z.Warmed39 s.vm) (B : own_B Z h a L) (hj : ¬ j < 0) (hv : j.toNatClampNeg < L.length) (hd : decode c.code pc = .ok (.bastore, 1)) (ga : n0 ≤ a) (qa : a ∈ ws ∨ h0.size ≤ a)
    (k : ∀ T' h', own_S p l e R s m args below meth c n0 h0 ws T' h' cells slots → Keep h h' [a] → Wr h h' a j.toNatClampNeg (.int (nar .byte x)) → own_B Z h' a (L.set j.toNatClampNeg x.toInt8.toInt32) → own_G p e below G T' (mkF m (pc + 1) Ls rest)) : own_G p e below G T (mkF m pc Ls (.int x :: .int j :: .ref a :: rest)) := by
  obtain ⟨⟨locs, X, N⟩, e0, K⟩ := X
  obtain ⟨cl, A, q⟩ := B
  have h2 : ¬ (j < 0 ∨ cl.slots.size ≤ j.toNatClampNeg) := fun z => z.elim hj fun z => by
    rw [q] at z
    simp at z
    omega
  obtain ⟨T1, h1, X1, e1, W1, st⟩ := stB X hx hZ e0 A (j := j) (x := x) h2 (g := mkF m pc Ls (.int x :: .int j :: .ref a :: rest)) rfl rfl hd
  refine own_st st (k T1 h1 ⟨⟨_, X1, Fr.snoc X1 N ga⟩, e1, K.wr W1 qa⟩ (Keep.of_wr W1) W1 ⟨_, A.same W1, ?_⟩)
  show (cl.slots.setIfInBounds j.toNatClampNeg _) = _
  rw [q]
  simp [nar]
theorem own_newB {n : Int32} {kk : Nat} (X : own_S p l e R s m args below meth c n0 h0 ws T h cells slots) (hx : p.tables.exec = Jvm.exec) (hZ : Z.Warmed39 s.vm) (w : (Jvm.Cond.arrayClass .byte).before a0 Z = true) (hn : ¬ n < 0) (hk : n.toNatClampNeg = kk) (hb : kk * 8 ≤ 536870912) (hc : cells + 1 ≤ R.cells) (hl : slots + kk ≤ R.slots) (hd : decode c.code pc = .ok (.newarray .byte, 2))
    (k : ∀ T' h' (b : Addr), b = h.size → h0.size ≤ b → own_S p l e R s m args below meth c n0 h0 ws T' h' (cells + 1) (slots + kk) → Ext h h' → own_B Z h' b (List.replicate kk 0) → own_G p e below G T' (mkF m (pc + 2) Ls (.ref b :: rest))) : own_G p e below G T (mkF m pc Ls (.int n :: rest)) := by
  obtain ⟨⟨locs, X, N⟩, e0, K⟩ := X
  obtain ⟨T1, h1, cA, X1, e1, E1, A1, st⟩ := newP X hx hZ (aty := .byte) w e0 (g := mkF m pc Ls (.int n :: rest)) rfl hd rfl hn (cap := kk) (Nat.le_of_eq hk) hb hc hl
  refine own_st st (k T1 h1 _ rfl K.1 ⟨⟨_, X1, N⟩, e1, K.ext E1⟩ E1 ⟨_, A1, ?_⟩)
  show Array.replicate n.toNatClampNeg (defaultValue .byte) = _
  rw [hk]
  simp [defaultValue]
end Heap
end Own
theorem own_w0 {Z : State} {a0 : Array Value} (hw : ∀ d ∈ tables_1, d.before a0 Z = true) : (Jvm.Cond.constant "com/example/kripke_over_lattices/kripkeoverlattices/model/DefinitionValuesEntryPinLaw" (7 : Nat) (1073741823 : Int32)).before a0 Z = true := hw _ (List.mem_of_getElem? (i := 0) rfl)
theorem own_w1 {Z : State} {a0 : Array Value} (hw : ∀ d ∈ tables_1, d.before a0 Z = true) : (Jvm.Cond.methodLink "com/example/kripke_over_lattices/kripkeoverlattices/model/DefinitionValuesEntryPinLaw" (8 : Nat) ({ cls := "com/example/kripke_over_lattices/kripkeoverlattices/model/DefinitionValues", name := "entry", desc := "(IZ)I" } : Jvm.MethodName)).before a0 Z = true := hw _ (List.mem_of_getElem? (i := 1) rfl)
theorem own_w2 {Z : State} {a0 : Array Value} (hw : ∀ d ∈ tables_1, d.before a0 Z = true) : (Jvm.Cond.static ({ cls := "com/example/kripke_over_lattices/kripkeoverlattices/model/DefinitionValues", name := "entry", desc := "(IZ)I" } : Jvm.MethodName)).before a0 Z = true := hw _ (List.mem_of_getElem? (i := 2) rfl)
theorem own_w3 {Z : State} {a0 : Array Value} (hw : ∀ d ∈ tables_1, d.before a0 Z = true) : (Jvm.Cond.initialized "com/example/kripke_over_lattices/kripkeoverlattices/model/DefinitionValues").before a0 Z = true := hw _ (List.mem_of_getElem? (i := 3) rfl)
theorem own_w4 {Z : State} {a0 : Array Value} (hw : ∀ d ∈ tables_1, d.before a0 Z = true) : (Jvm.Cond.code ({ cls := "com/example/kripke_over_lattices/kripkeoverlattices/model/DefinitionValues", name := "entry", desc := "(IZ)I" } : Jvm.MethodName) prog_70_method_6_code (2 : Nat) (Option.some Jvm.ClassFile.FieldType.int)).before a0 Z = true := hw _ (List.mem_of_getElem? (i := 4) rfl)
theorem own_w5 {Z : State} {a0 : Array Value} (hw : ∀ d ∈ tables_1, d.before a0 Z = true) : (Jvm.Cond.methodLink "com/example/kripke_over_lattices/kripkeoverlattices/model/DefinitionValuesEntryPinLaw" (14 : Nat) ({ cls := "com/example/kripke_over_lattices/kripkeoverlattices/model/DefinitionValues", name := "definition", desc := "(I)I" } : Jvm.MethodName)).before a0 Z = true := hw _ (List.mem_of_getElem? (i := 5) rfl)
theorem own_w6 {Z : State} {a0 : Array Value} (hw : ∀ d ∈ tables_1, d.before a0 Z = true) : (Jvm.Cond.static ({ cls := "com/example/kripke_over_lattices/kripkeoverlattices/model/DefinitionValues", name := "definition", desc := "(I)I" } : Jvm.MethodName)).before a0 Z = true := hw _ (List.mem_of_getElem? (i := 6) rfl)
theorem own_w7 {Z : State} {a0 : Array Value} (hw : ∀ d ∈ tables_1, d.before a0 Z = true) : (Jvm.Cond.code ({ cls := "com/example/kripke_over_lattices/kripkeoverlattices/model/DefinitionValues", name := "definition", desc := "(I)I" } : Jvm.MethodName) prog_70_method_7_code (1 : Nat) (Option.some Jvm.ClassFile.FieldType.int)).before a0 Z = true := hw _ (List.mem_of_getElem? (i := 7) rfl)
theorem own_w8 {Z : State} {a0 : Array Value} (hw : ∀ d ∈ tables_1, d.before a0 Z = true) : (Jvm.Cond.methodLink "com/example/kripke_over_lattices/kripkeoverlattices/model/DefinitionValuesEntryPinLaw" (18 : Nat) ({ cls := "com/example/kripke_over_lattices/kripkeoverlattices/model/DefinitionValues", name := "inSuccessor", desc := "(I)Z" } : Jvm.MethodName)).before a0 Z = true := hw _ (List.mem_of_getElem? (i := 8) rfl)
theorem own_w9 {Z : State} {a0 : Array Value} (hw : ∀ d ∈ tables_1, d.before a0 Z = true) : (Jvm.Cond.static ({ cls := "com/example/kripke_over_lattices/kripkeoverlattices/model/DefinitionValues", name := "inSuccessor", desc := "(I)Z" } : Jvm.MethodName)).before a0 Z = true := hw _ (List.mem_of_getElem? (i := 9) rfl)
theorem own_w10 {Z : State} {a0 : Array Value} (hw : ∀ d ∈ tables_1, d.before a0 Z = true) : (Jvm.Cond.code ({ cls := "com/example/kripke_over_lattices/kripkeoverlattices/model/DefinitionValues", name := "inSuccessor", desc := "(I)Z" } : Jvm.MethodName) prog_70_method_8_code (1 : Nat) (Option.some Jvm.ClassFile.FieldType.boolean)).before a0 Z = true := hw _ (List.mem_of_getElem? (i := 10) rfl)
theorem own_pd0 : parseMethodDescriptor "(IZ)I" = some ⟨[.int, .boolean], some .int⟩ := by decide +kernel
theorem own_pn0 : plainName "com/example/kripke_over_lattices/kripkeoverlattices/model/DefinitionValues" = true := by first | (simp [plainName, overriddenIn]; done) | decide +kernel
theorem own_pd1 : parseMethodDescriptor "(I)I" = some ⟨[.int], some .int⟩ := by decide +kernel
theorem own_pd2 : parseMethodDescriptor "(I)Z" = some ⟨[.int], some .boolean⟩ := by decide +kernel
theorem own_pd3 : parseMethodDescriptor "(II)Z" = some ⟨[.int, .int], some .boolean⟩ := by decide +kernel
theorem own_pn1 : plainName "com/example/kripke_over_lattices/kripkeoverlattices/model/DefinitionValuesEntryPinLaw" = true := by first | (simp [plainName, overriddenIn]; done) | decide +kernel
theorem d1_0 : decode prog_70_method_6_code 0 = .ok (.iconst 2, 1) := by decide +kernel
theorem d1_1 : decode prog_70_method_6_code 1 = .ok (.iload_n 0, 1) := by decide +kernel
theorem d1_2 : decode prog_70_method_6_code 2 = .ok (.imul, 1) := by decide +kernel
theorem d1_3 : decode prog_70_method_6_code 3 = .ok (.iload_n 1, 1) := by decide +kernel
theorem d1_4 : decode prog_70_method_6_code 4 = .ok (.ifCond .eq 7, 3) := by decide +kernel
theorem d1_7 : decode prog_70_method_6_code 7 = .ok (.iconst 1, 1) := by decide +kernel
theorem d1_8 : decode prog_70_method_6_code 8 = .ok (.goto 4, 3) := by decide +kernel
theorem d1_11 : decode prog_70_method_6_code 11 = .ok (.iconst 0, 1) := by decide +kernel
theorem d1_12 : decode prog_70_method_6_code 12 = .ok (.iadd, 1) := by decide +kernel
theorem d1_13 : decode prog_70_method_6_code 13 = .ok (.ireturn, 1) := by decide +kernel
/-- what the body returns -/
def own_F1 (p0 : Int32) (p1 : Int32) : Int32 :=
  (if p1 = (0 : Int32) then (((2 : Int32) * p0) + (0 : Int32)) else (((2 : Int32) * p0) + (1 : Int32)))
theorem own_ef1 (m : MethodId) (p0 : Int32) (p1 : Int32) : entryFrame m #[(.int p0), (.int p1)] 2 = mkF m 0 #[.val (.int p0), .val (.int p1)] [] := by first | (simp [entryFrame, mkF, argsToLocals, Value.category]; done) | rfl
set_option maxRecDepth 65536 in
set_option maxHeartbeats 40000000 in
theorem own_c1 (l : Launch) (Z : State) (a0 : Array Value) (hw : ∀ d ∈ tables_1, d.before a0 Z = true) (h0 : Heap) (n0 : Nat) (Z0 : n0 ≤ h0.size) (p0 : Int32) (p1 : Int32) :
    own_M l (⟨"com/example/kripke_over_lattices/kripkeoverlattices/model/DefinitionValues", "entry", "(IZ)I"⟩ : MethodName) prog_70_method_6_code 2 (some .int) [] ({ frames := 0, cells := 0, slots := 0, locals := 0 } : Room) Z #[(.int p0), (.int p1)] h0 (own_Q n0 h0 [] (own_P (.int (own_F1 p0 p1)) h0)) := by
  refine own_body (plainFor_of_name own_pn0) ?_
  intro p e s m below meth c T0 X0 hx hby hml hown hnm hret hlk hZ
  refine own_cast (own_ef1 m p0 p1) ?_
  refine own_st (f' := (mkF m 1 #[.val (.int p0), .val (.int p1)] [(.int (2 : Int32))])) (fun t k => XS.iconst X0.her hx rfl (hb hby d1_0) k) ?_
  refine own_st (f' := (mkF m 2 #[.val (.int p0), .val (.int p1)] [(.int p0), (.int (2 : Int32))])) (fun t k => XS.iloadN X0.her hx rfl (hb hby d1_1) rfl k) ?_
  refine own_st (f' := (mkF m 3 #[.val (.int p0), .val (.int p1)] [(.int ((2 : Int32) * p0))])) (fun t k => XS.imul X0.her hx rfl (hb hby d1_2) rfl k) ?_
  refine own_st (f' := (mkF m 4 #[.val (.int p0), .val (.int p1)] [(.int p1), (.int ((2 : Int32) * p0))])) (fun t k => XS.iloadN X0.her hx rfl (hb hby d1_3) rfl k) ?_
  by_cases hc1 : p1 = (0 : Int32)
  · refine own_st (f' := (mkF m 11 #[.val (.int p0), .val (.int p1)] [(.int ((2 : Int32) * p0))])) (fun t k => XS.ifYes X0.her hx rfl (pc0 := 4) (pc' := 11) rfl (hb hby d1_4) rfl ((if0 _ _).trans (teq hc1).1) (by decide) (by decide) k) ?_
    refine own_st (f' := (mkF m 12 #[.val (.int p0), .val (.int p1)] [(.int (0 : Int32)), (.int ((2 : Int32) * p0))])) (fun t k => XS.iconst X0.her hx rfl (hb hby d1_11) k) ?_
    refine own_st (f' := (mkF m 13 #[.val (.int p0), .val (.int p1)] [(.int (((2 : Int32) * p0) + (0 : Int32)))])) (fun t k => XS.iadd X0.her hx rfl (hb hby d1_12) rfl k) ?_
    refine own_retI X0 hx hret hlk (hb hby d1_13) (by first | decide | omega) (by first | decide | omega) ?_
    exact ⟨congrArg (fun q => some (Value.int q)) (by unfold own_F1; rw [if_pos hc1]; first | done | exact rfl), rfl⟩
  · refine own_st (f' := (mkF m 7 #[.val (.int p0), .val (.int p1)] [(.int ((2 : Int32) * p0))])) (fun t k => XS.ifNo X0.her hx rfl (hb hby d1_4) rfl ((if0 _ _).trans (feq hc1).1) k) ?_
    refine own_st (f' := (mkF m 8 #[.val (.int p0), .val (.int p1)] [(.int (1 : Int32)), (.int ((2 : Int32) * p0))])) (fun t k => XS.iconst X0.her hx rfl (hb hby d1_7) k) ?_
    refine own_st (f' := (mkF m 12 #[.val (.int p0), .val (.int p1)] [(.int (1 : Int32)), (.int ((2 : Int32) * p0))])) (fun t k => XS.goto X0.her hx rfl (pc0 := 8) (pc' := 12) rfl (hb hby d1_8) (by decide) (by decide) k) ?_
    refine own_st (f' := (mkF m 13 #[.val (.int p0), .val (.int p1)] [(.int (((2 : Int32) * p0) + (1 : Int32)))])) (fun t k => XS.iadd X0.her hx rfl (hb hby d1_12) rfl k) ?_
    refine own_retI X0 hx hret hlk (hb hby d1_13) (by first | decide | omega) (by first | decide | omega) ?_
    exact ⟨congrArg (fun q => some (Value.int q)) (by unfold own_F1; rw [if_neg hc1]; first | done | exact rfl), rfl⟩
theorem d2_0 : decode prog_70_method_7_code 0 = .ok (.iload_n 0, 1) := by decide +kernel
theorem d2_1 : decode prog_70_method_7_code 1 = .ok (.iconst 2, 1) := by decide +kernel
theorem d2_2 : decode prog_70_method_7_code 2 = .ok (.idiv, 1) := by decide +kernel
theorem d2_3 : decode prog_70_method_7_code 3 = .ok (.ireturn, 1) := by decide +kernel
/-- what the body returns -/
def own_F2 (p0 : Int32) : Int32 :=
  (p0 / (2 : Int32))
theorem own_ef2 (m : MethodId) (p0 : Int32) : entryFrame m #[(.int p0)] 1 = mkF m 0 #[.val (.int p0)] [] := by first | (simp [entryFrame, mkF, argsToLocals, Value.category]; done) | rfl
set_option maxRecDepth 65536 in
set_option maxHeartbeats 40000000 in
theorem own_c2 (l : Launch) (Z : State) (a0 : Array Value) (hw : ∀ d ∈ tables_1, d.before a0 Z = true) (h0 : Heap) (n0 : Nat) (Z0 : n0 ≤ h0.size) (p0 : Int32) :
    own_M l (⟨"com/example/kripke_over_lattices/kripkeoverlattices/model/DefinitionValues", "definition", "(I)I"⟩ : MethodName) prog_70_method_7_code 1 (some .int) [] ({ frames := 0, cells := 0, slots := 0, locals := 0 } : Room) Z #[(.int p0)] h0 (own_Q n0 h0 [] (own_P (.int (own_F2 p0)) h0)) := by
  refine own_body (plainFor_of_name own_pn0) ?_
  intro p e s m below meth c T0 X0 hx hby hml hown hnm hret hlk hZ
  refine own_cast (own_ef2 m p0) ?_
  refine own_st (f' := (mkF m 1 #[.val (.int p0)] [(.int p0)])) (fun t k => XS.iloadN X0.her hx rfl (hb hby d2_0) rfl k) ?_
  refine own_st (f' := (mkF m 2 #[.val (.int p0)] [(.int (2 : Int32)), (.int p0)])) (fun t k => XS.iconst X0.her hx rfl (hb hby d2_1) k) ?_
  refine own_st (f' := (mkF m 3 #[.val (.int p0)] [(.int (p0 / (2 : Int32)))])) (fun t k => XS.idiv X0.her hx rfl (hb hby d2_2) rfl (by decide) k) ?_
  refine own_retI X0 hx hret hlk (hb hby d2_3) (by first | decide | omega) (by first | decide | omega) ?_
  exact ⟨congrArg (fun q => some (Value.int q)) (by unfold own_F2; first | done | exact rfl), rfl⟩
theorem d3_0 : decode prog_70_method_8_code 0 = .ok (.iload_n 0, 1) := by decide +kernel
theorem d3_1 : decode prog_70_method_8_code 1 = .ok (.iconst 2, 1) := by decide +kernel
theorem d3_2 : decode prog_70_method_8_code 2 = .ok (.irem, 1) := by decide +kernel
theorem d3_3 : decode prog_70_method_8_code 3 = .ok (.iconst 1, 1) := by decide +kernel
theorem d3_4 : decode prog_70_method_8_code 4 = .ok (.if_icmp .ne 7, 3) := by decide +kernel
theorem d3_7 : decode prog_70_method_8_code 7 = .ok (.iconst 1, 1) := by decide +kernel
theorem d3_8 : decode prog_70_method_8_code 8 = .ok (.goto 4, 3) := by decide +kernel
theorem d3_11 : decode prog_70_method_8_code 11 = .ok (.iconst 0, 1) := by decide +kernel
theorem d3_12 : decode prog_70_method_8_code 12 = .ok (.ireturn, 1) := by decide +kernel
/-- what the body returns -/
def own_F3 (p0 : Int32) : Int32 :=
  (if (p0 % (2 : Int32)) = (1 : Int32) then (1 : Int32) else (0 : Int32))
theorem own_ef3 (m : MethodId) (p0 : Int32) : entryFrame m #[(.int p0)] 1 = mkF m 0 #[.val (.int p0)] [] := by first | (simp [entryFrame, mkF, argsToLocals, Value.category]; done) | rfl
set_option maxRecDepth 65536 in
set_option maxHeartbeats 40000000 in
theorem own_c3 (l : Launch) (Z : State) (a0 : Array Value) (hw : ∀ d ∈ tables_1, d.before a0 Z = true) (h0 : Heap) (n0 : Nat) (Z0 : n0 ≤ h0.size) (p0 : Int32) :
    own_M l (⟨"com/example/kripke_over_lattices/kripkeoverlattices/model/DefinitionValues", "inSuccessor", "(I)Z"⟩ : MethodName) prog_70_method_8_code 1 (some .boolean) [] ({ frames := 0, cells := 0, slots := 0, locals := 0 } : Room) Z #[(.int p0)] h0 (own_Q n0 h0 [] (own_P (.int (own_F3 p0)) h0)) := by
  refine own_body (plainFor_of_name own_pn0) ?_
  intro p e s m below meth c T0 X0 hx hby hml hown hnm hret hlk hZ
  refine own_cast (own_ef3 m p0) ?_
  refine own_st (f' := (mkF m 1 #[.val (.int p0)] [(.int p0)])) (fun t k => XS.iloadN X0.her hx rfl (hb hby d3_0) rfl k) ?_
  refine own_st (f' := (mkF m 2 #[.val (.int p0)] [(.int (2 : Int32)), (.int p0)])) (fun t k => XS.iconst X0.her hx rfl (hb hby d3_1) k) ?_
  refine own_irem X0 hx (hb hby d3_2) (by decide) ?_
  refine own_st (f' := (mkF m 4 #[.val (.int p0)] [(.int (1 : Int32)), (.int (p0 % (2 : Int32)))])) (fun t k => XS.iconst X0.her hx rfl (hb hby d3_3) k) ?_
  by_cases hc2 : (p0 % (2 : Int32)) = (1 : Int32)
  · refine own_st (f' := (mkF m 7 #[.val (.int p0)] [])) (fun t k => XS.icmpNo X0.her hx rfl (hb hby d3_4) rfl (teq hc2).2 k) ?_
    refine own_st (f' := (mkF m 8 #[.val (.int p0)] [(.int (1 : Int32))])) (fun t k => XS.iconst X0.her hx rfl (hb hby d3_7) k) ?_
    refine own_st (f' := (mkF m 12 #[.val (.int p0)] [(.int (1 : Int32))])) (fun t k => XS.goto X0.her hx rfl (pc0 := 8) (pc' := 12) rfl (hb hby d3_8) (by decide) (by decide) k) ?_
    refine own_retN (t := .boolean) X0 hx hret hlk (by simp) (hb hby d3_12) (by first | decide | omega) (by first | decide | omega) ?_
    exact ⟨congrArg (fun q => some (Value.int q)) (by unfold own_F3; rw [if_pos hc2]; first | done | exact by decide), rfl⟩
  · refine own_st (f' := (mkF m 11 #[.val (.int p0)] [])) (fun t k => XS.icmpYes X0.her hx rfl (pc0 := 4) (pc' := 11) rfl (hb hby d3_4) rfl (feq hc2).2 (by decide) (by decide) k) ?_
    refine own_st (f' := (mkF m 12 #[.val (.int p0)] [(.int (0 : Int32))])) (fun t k => XS.iconst X0.her hx rfl (hb hby d3_11) k) ?_
    refine own_retN (t := .boolean) X0 hx hret hlk (by simp) (hb hby d3_12) (by first | decide | omega) (by first | decide | omega) ?_
    exact ⟨congrArg (fun q => some (Value.int q)) (by unfold own_F3; rw [if_neg hc2]; first | done | exact by decide), rfl⟩
def own_t0_4 (p0 : Int32) (p1 : Int32) : Int32 := (p0 &&& (1073741823 : Int32))
def own_t0_22 (p0 : Int32) (p1 : Int32) : Int32 := (own_F1 (own_t0_4 p0 p1) (0 : Int32))
def own_t0_22b (p0 : Int32) (p1 : Int32) : Int32 := (own_F1 (own_t0_4 p0 p1) (1 : Int32))
/-- what the body returns -/
def own_F0 (p0 : Int32) (p1 : Int32) : Int32 :=
  (if (p1 &&& (1 : Int32)) = (0 : Int32) then (if (own_t0_22 p0 p1) < (0 : Int32) then (0 : Int32) else (if (own_F2 (own_t0_22 p0 p1)) = (own_t0_4 p0 p1) then (if (own_F3 (own_t0_22 p0 p1)) = (0 : Int32) then (1 : Int32) else (0 : Int32)) else (0 : Int32))) else (if (own_t0_22b p0 p1) < (0 : Int32) then (0 : Int32) else (if (own_F2 (own_t0_22b p0 p1)) = (own_t0_4 p0 p1) then (if (own_F3 (own_t0_22b p0 p1)) = (1 : Int32) then (1 : Int32) else (0 : Int32)) else (0 : Int32))))
theorem own_ef0 (m : MethodId) (p0 : Int32) (p1 : Int32) : entryFrame m #[(.int p0), (.int p1)] maxLocals = mkF m 0 #[.val (.int p0), .val (.int p1), .unset, .unset, .unset] [] := by first | (simp [entryFrame, mkF, argsToLocals, Value.category, maxLocals]; done) | rfl
set_option maxRecDepth 65536 in
set_option maxHeartbeats 40000000 in
theorem own_c0 (l : Launch) (Z : State) (a0 : Array Value) (hw : ∀ d ∈ tables_1, d.before a0 Z = true) (h0 : Heap) (n0 : Nat) (Z0 : n0 ≤ h0.size) (p0 : Int32) (p1 : Int32) :
    own_M l x code maxLocals ret tables_1 room_1 Z #[(.int p0), (.int p1)] h0 (own_Q n0 h0 [] (fun v _ => v = some (.int (own_F0 p0 p1)))) := by
  refine own_body (plainFor_of_name own_pn1) ?_
  intro p e s m below meth c T0 X0 hx hby hml hown hnm hret hlk hZ
  refine own_cast (own_ef0 m p0 p1) ?_
  refine own_st (f' := (mkF m 1 #[.val (.int p0), .val (.int p1), .unset, .unset, .unset] [(.int p0)])) (fun t k => XS.iloadN X0.her hx rfl (hb hby at_0) rfl k) ?_
  refine own_ldcI X0 hx hZ hown (own_w0 hw) (hb hby at_1) ?_
  refine own_st (f' := (mkF m 4 #[.val (.int p0), .val (.int p1), .unset, .unset, .unset] [(.int (p0 &&& (1073741823 : Int32)))])) (fun t k => XS.iand X0.her hx rfl (hb hby at_3) rfl k) ?_
  refine own_st (f' := (mkF m 5 #[.val (.int p0), .val (.int p1), .val (.int (own_t0_4 p0 p1)), .unset, .unset] [])) (fun t k => XS.istoreN X0.her hx rfl (hb hby at_4) rfl (l' := #[.val (.int p0), .val (.int p1), .val (.int (own_t0_4 p0 p1)), .unset, .unset]) rfl k) ?_
  refine own_st (f' := (mkF m 6 #[.val (.int p0), .val (.int p1), .val (.int (own_t0_4 p0 p1)), .unset, .unset] [(.int p1)])) (fun t k => XS.iloadN X0.her hx rfl (hb hby at_5) rfl k) ?_
  refine own_st (f' := (mkF m 7 #[.val (.int p0), .val (.int p1), .val (.int (own_t0_4 p0 p1)), .unset, .unset] [(.int (1 : Int32)), (.int p1)])) (fun t k => XS.iconst X0.her hx rfl (hb hby at_6) k) ?_
  refine own_st (f' := (mkF m 8 #[.val (.int p0), .val (.int p1), .val (.int (own_t0_4 p0 p1)), .unset, .unset] [(.int (p1 &&& (1 : Int32)))])) (fun t k => XS.iand X0.her hx rfl (hb hby at_7) rfl k) ?_
  by_cases hc3 : (p1 &&& (1 : Int32)) = (0 : Int32)
  · refine own_st (f' := (mkF m 15 #[.val (.int p0), .val (.int p1), .val (.int (own_t0_4 p0 p1)), .unset, .unset] [])) (fun t k => XS.ifYes X0.her hx rfl (pc0 := 8) (pc' := 15) rfl (hb hby at_8) rfl ((if0 _ _).trans (teq hc3).1) (by decide) (by decide) k) ?_
    refine own_st (f' := (mkF m 16 #[.val (.int p0), .val (.int p1), .val (.int (own_t0_4 p0 p1)), .unset, .unset] [(.int (0 : Int32))])) (fun t k => XS.iconst X0.her hx rfl (hb hby at_15) k) ?_
    refine own_st (f' := (mkF m 17 #[.val (.int p0), .val (.int p1), .val (.int (own_t0_4 p0 p1)), .val (.int (0 : Int32)), .unset] [])) (fun t k => XS.istoreN X0.her hx rfl (hb hby at_16) rfl (l' := #[.val (.int p0), .val (.int p1), .val (.int (own_t0_4 p0 p1)), .val (.int (0 : Int32)), .unset]) rfl k) ?_
    refine own_st (f' := (mkF m 18 #[.val (.int p0), .val (.int p1), .val (.int (own_t0_4 p0 p1)), .val (.int (0 : Int32)), .unset] [(.int (own_t0_4 p0 p1))])) (fun t k => XS.iloadN X0.her hx rfl (hb hby at_17) rfl k) ?_
    refine own_st (f' := (mkF m 19 #[.val (.int p0), .val (.int p1), .val (.int (own_t0_4 p0 p1)), .val (.int (0 : Int32)), .unset] [(.int (0 : Int32)), (.int (own_t0_4 p0 p1))])) (fun t k => XS.iloadN X0.her hx rfl (hb hby at_18) rfl k) ?_
    refine own_callSP (y := (⟨"com/example/kripke_over_lattices/kripkeoverlattices/model/DefinitionValues", "entry", "(IZ)I"⟩ : MethodName)) (W := 0) [(.int (own_t0_4 p0 p1)), (.int (0 : Int32))] X0 hx hZ hown (own_w1 hw) (own_w2 hw) (own_w3 hw) (own_w4 hw) (by decide) (own_c1 l Z a0 hw h0 n0 Z0 (own_t0_4 p0 p1) (0 : Int32)) (by decide) (by decide) (by decide) (by decide) (by rw [hml]; rfl) own_pd0 rfl rfl (Nat.le_of_eq rfl) (hb hby at_19) ?_
    intro T4 X4
    show own_G p e below _ T4 (mkF m 22 #[.val (.int p0), .val (.int p1), .val (.int (own_t0_4 p0 p1)), .val (.int (0 : Int32)), .unset] [(.int (own_F1 (own_t0_4 p0 p1) (0 : Int32)))])
    refine own_st (f' := (mkF m 24 #[.val (.int p0), .val (.int p1), .val (.int (own_t0_4 p0 p1)), .val (.int (0 : Int32)), .val (.int (own_t0_22 p0 p1))] [])) (fun t k => XS.istore X4.her hx rfl (hb hby at_22) rfl (l' := #[.val (.int p0), .val (.int p1), .val (.int (own_t0_4 p0 p1)), .val (.int (0 : Int32)), .val (.int (own_t0_22 p0 p1))]) rfl k) ?_
    refine own_st (f' := (mkF m 26 #[.val (.int p0), .val (.int p1), .val (.int (own_t0_4 p0 p1)), .val (.int (0 : Int32)), .val (.int (own_t0_22 p0 p1))] [(.int (own_t0_22 p0 p1))])) (fun t k => XS.iload X4.her hx rfl (hb hby at_24) rfl k) ?_
    by_cases hc5 : (own_t0_22 p0 p1) < (0 : Int32)
    · refine own_st (f' := (mkF m 29 #[.val (.int p0), .val (.int p1), .val (.int (own_t0_4 p0 p1)), .val (.int (0 : Int32)), .val (.int (own_t0_22 p0 p1))] [])) (fun t k => XS.ifNo X4.her hx rfl (hb hby at_26) rfl ((if0 _ _).trans (tlt hc5).2.1) k) ?_
      refine own_st (f' := (mkF m 30 #[.val (.int p0), .val (.int p1), .val (.int (own_t0_4 p0 p1)), .val (.int (0 : Int32)), .val (.int (own_t0_22 p0 p1))] [(.int (0 : Int32))])) (fun t k => XS.iconst X4.her hx rfl (hb hby at_29) k) ?_
      refine own_retN (t := .boolean) X4 hx hret hlk (by simp) (hb hby at_30) (by first | decide | omega) (by first | decide | omega) ?_
      exact congrArg (fun q => some (Value.int q)) (by unfold own_F0; rw [if_pos hc3, if_pos hc5]; first | done | exact by decide)
    · refine own_st (f' := (mkF m 31 #[.val (.int p0), .val (.int p1), .val (.int (own_t0_4 p0 p1)), .val (.int (0 : Int32)), .val (.int (own_t0_22 p0 p1))] [])) (fun t k => XS.ifYes X4.her hx rfl (pc0 := 26) (pc' := 31) rfl (hb hby at_26) rfl ((if0 _ _).trans (flt hc5).2.1) (by decide) (by decide) k) ?_
      refine own_st (f' := (mkF m 33 #[.val (.int p0), .val (.int p1), .val (.int (own_t0_4 p0 p1)), .val (.int (0 : Int32)), .val (.int (own_t0_22 p0 p1))] [(.int (own_t0_22 p0 p1))])) (fun t k => XS.iload X4.her hx rfl (hb hby at_31) rfl k) ?_
      refine own_callSP (y := (⟨"com/example/kripke_over_lattices/kripkeoverlattices/model/DefinitionValues", "definition", "(I)I"⟩ : MethodName)) (W := 0) [(.int (own_t0_22 p0 p1))] X4 hx hZ hown (own_w5 hw) (own_w6 hw) (own_w3 hw) (own_w7 hw) (by decide) (own_c2 l Z a0 hw h0 n0 Z0 (own_t0_22 p0 p1)) (by decide) (by decide) (by decide) (by decide) (by rw [hml]; rfl) own_pd1 rfl rfl (Nat.le_of_eq rfl) (hb hby at_33) ?_
      intro T6 X6
      show own_G p e below _ T6 (mkF m 36 #[.val (.int p0), .val (.int p1), .val (.int (own_t0_4 p0 p1)), .val (.int (0 : Int32)), .val (.int (own_t0_22 p0 p1))] [(.int (own_F2 (own_t0_22 p0 p1)))])
      refine own_st (f' := (mkF m 37 #[.val (.int p0), .val (.int p1), .val (.int (own_t0_4 p0 p1)), .val (.int (0 : Int32)), .val (.int (own_t0_22 p0 p1))] [(.int (own_t0_4 p0 p1)), (.int (own_F2 (own_t0_22 p0 p1)))])) (fun t k => XS.iloadN X6.her hx rfl (hb hby at_36) rfl k) ?_
      by_cases hc7 : (own_F2 (own_t0_22 p0 p1)) = (own_t0_4 p0 p1)
      · refine own_st (f' := (mkF m 42 #[.val (.int p0), .val (.int p1), .val (.int (own_t0_4 p0 p1)), .val (.int (0 : Int32)), .val (.int (own_t0_22 p0 p1))] [])) (fun t k => XS.icmpYes X6.her hx rfl (pc0 := 37) (pc' := 42) rfl (hb hby at_37) rfl (teq hc7).1 (by decide) (by decide) k) ?_
        refine own_st (f' := (mkF m 44 #[.val (.int p0), .val (.int p1), .val (.int (own_t0_4 p0 p1)), .val (.int (0 : Int32)), .val (.int (own_t0_22 p0 p1))] [(.int (own_t0_22 p0 p1))])) (fun t k => XS.iload X6.her hx rfl (hb hby at_42) rfl k) ?_
        refine own_callSP (y := (⟨"com/example/kripke_over_lattices/kripkeoverlattices/model/DefinitionValues", "inSuccessor", "(I)Z"⟩ : MethodName)) (W := 0) [(.int (own_t0_22 p0 p1))] X6 hx hZ hown (own_w8 hw) (own_w9 hw) (own_w3 hw) (own_w10 hw) (by decide) (own_c3 l Z a0 hw h0 n0 Z0 (own_t0_22 p0 p1)) (by decide) (by decide) (by decide) (by decide) (by rw [hml]; rfl) own_pd2 rfl rfl (Nat.le_of_eq rfl) (hb hby at_44) ?_
        intro T8 X8
        show own_G p e below _ T8 (mkF m 47 #[.val (.int p0), .val (.int p1), .val (.int (own_t0_4 p0 p1)), .val (.int (0 : Int32)), .val (.int (own_t0_22 p0 p1))] [(.int (own_F3 (own_t0_22 p0 p1)))])
        refine own_st (f' := (mkF m 48 #[.val (.int p0), .val (.int p1), .val (.int (own_t0_4 p0 p1)), .val (.int (0 : Int32)), .val (.int (own_t0_22 p0 p1))] [(.int (0 : Int32)), (.int (own_F3 (own_t0_22 p0 p1)))])) (fun t k => XS.iloadN X8.her hx rfl (hb hby at_47) rfl k) ?_
        by_cases hc9 : (own_F3 (own_t0_22 p0 p1)) = (0 : Int32)
        · refine own_st (f' := (mkF m 51 #[.val (.int p0), .val (.int p1), .val (.int (own_t0_4 p0 p1)), .val (.int (0 : Int32)), .val (.int (own_t0_22 p0 p1))] [])) (fun t k => XS.icmpNo X8.her hx rfl (hb hby at_48) rfl (teq hc9).2 k) ?_
          refine own_st (f' := (mkF m 52 #[.val (.int p0), .val (.int p1), .val (.int (own_t0_4 p0 p1)), .val (.int (0 : Int32)), .val (.int (own_t0_22 p0 p1))] [(.int (1 : Int32))])) (fun t k => XS.iconst X8.her hx rfl (hb hby at_51) k) ?_
          refine own_st (f' := (mkF m 56 #[.val (.int p0), .val (.int p1), .val (.int (own_t0_4 p0 p1)), .val (.int (0 : Int32)), .val (.int (own_t0_22 p0 p1))] [(.int (1 : Int32))])) (fun t k => XS.goto X8.her hx rfl (pc0 := 52) (pc' := 56) rfl (hb hby at_52) (by decide) (by decide) k) ?_
          refine own_retN (t := .boolean) X8 hx hret hlk (by simp) (hb hby at_56) (by first | decide | omega) (by first | decide | omega) ?_
          exact congrArg (fun q => some (Value.int q)) (by unfold own_F0; rw [if_pos hc3, if_neg hc5, if_pos hc7, if_pos hc9]; first | done | exact by decide)
        · refine own_st (f' := (mkF m 55 #[.val (.int p0), .val (.int p1), .val (.int (own_t0_4 p0 p1)), .val (.int (0 : Int32)), .val (.int (own_t0_22 p0 p1))] [])) (fun t k => XS.icmpYes X8.her hx rfl (pc0 := 48) (pc' := 55) rfl (hb hby at_48) rfl (feq hc9).2 (by decide) (by decide) k) ?_
          refine own_st (f' := (mkF m 56 #[.val (.int p0), .val (.int p1), .val (.int (own_t0_4 p0 p1)), .val (.int (0 : Int32)), .val (.int (own_t0_22 p0 p1))] [(.int (0 : Int32))])) (fun t k => XS.iconst X8.her hx rfl (hb hby at_55) k) ?_
          refine own_retN (t := .boolean) X8 hx hret hlk (by simp) (hb hby at_56) (by first | decide | omega) (by first | decide | omega) ?_
          exact congrArg (fun q => some (Value.int q)) (by unfold own_F0; rw [if_pos hc3, if_neg hc5, if_pos hc7, if_neg hc9]; first | done | exact by decide)
      · refine own_st (f' := (mkF m 40 #[.val (.int p0), .val (.int p1), .val (.int (own_t0_4 p0 p1)), .val (.int (0 : Int32)), .val (.int (own_t0_22 p0 p1))] [])) (fun t k => XS.icmpNo X6.her hx rfl (hb hby at_37) rfl (feq hc7).1 k) ?_
        refine own_st (f' := (mkF m 41 #[.val (.int p0), .val (.int p1), .val (.int (own_t0_4 p0 p1)), .val (.int (0 : Int32)), .val (.int (own_t0_22 p0 p1))] [(.int (0 : Int32))])) (fun t k => XS.iconst X6.her hx rfl (hb hby at_40) k) ?_
        refine own_retN (t := .boolean) X6 hx hret hlk (by simp) (hb hby at_41) (by first | decide | omega) (by first | decide | omega) ?_
        exact congrArg (fun q => some (Value.int q)) (by unfold own_F0; rw [if_pos hc3, if_neg hc5, if_neg hc7]; first | done | exact by decide)
  · refine own_st (f' := (mkF m 11 #[.val (.int p0), .val (.int p1), .val (.int (own_t0_4 p0 p1)), .unset, .unset] [])) (fun t k => XS.ifNo X0.her hx rfl (hb hby at_8) rfl ((if0 _ _).trans (feq hc3).1) k) ?_
    refine own_st (f' := (mkF m 12 #[.val (.int p0), .val (.int p1), .val (.int (own_t0_4 p0 p1)), .unset, .unset] [(.int (1 : Int32))])) (fun t k => XS.iconst X0.her hx rfl (hb hby at_11) k) ?_
    refine own_st (f' := (mkF m 16 #[.val (.int p0), .val (.int p1), .val (.int (own_t0_4 p0 p1)), .unset, .unset] [(.int (1 : Int32))])) (fun t k => XS.goto X0.her hx rfl (pc0 := 12) (pc' := 16) rfl (hb hby at_12) (by decide) (by decide) k) ?_
    refine own_st (f' := (mkF m 17 #[.val (.int p0), .val (.int p1), .val (.int (own_t0_4 p0 p1)), .val (.int (1 : Int32)), .unset] [])) (fun t k => XS.istoreN X0.her hx rfl (hb hby at_16) rfl (l' := #[.val (.int p0), .val (.int p1), .val (.int (own_t0_4 p0 p1)), .val (.int (1 : Int32)), .unset]) rfl k) ?_
    refine own_st (f' := (mkF m 18 #[.val (.int p0), .val (.int p1), .val (.int (own_t0_4 p0 p1)), .val (.int (1 : Int32)), .unset] [(.int (own_t0_4 p0 p1))])) (fun t k => XS.iloadN X0.her hx rfl (hb hby at_17) rfl k) ?_
    refine own_st (f' := (mkF m 19 #[.val (.int p0), .val (.int p1), .val (.int (own_t0_4 p0 p1)), .val (.int (1 : Int32)), .unset] [(.int (1 : Int32)), (.int (own_t0_4 p0 p1))])) (fun t k => XS.iloadN X0.her hx rfl (hb hby at_18) rfl k) ?_
    refine own_callSP (y := (⟨"com/example/kripke_over_lattices/kripkeoverlattices/model/DefinitionValues", "entry", "(IZ)I"⟩ : MethodName)) (W := 0) [(.int (own_t0_4 p0 p1)), (.int (1 : Int32))] X0 hx hZ hown (own_w1 hw) (own_w2 hw) (own_w3 hw) (own_w4 hw) (by decide) (own_c1 l Z a0 hw h0 n0 Z0 (own_t0_4 p0 p1) (1 : Int32)) (by decide) (by decide) (by decide) (by decide) (by rw [hml]; rfl) own_pd0 rfl rfl (Nat.le_of_eq rfl) (hb hby at_19) ?_
    intro T10 X10
    show own_G p e below _ T10 (mkF m 22 #[.val (.int p0), .val (.int p1), .val (.int (own_t0_4 p0 p1)), .val (.int (1 : Int32)), .unset] [(.int (own_F1 (own_t0_4 p0 p1) (1 : Int32)))])
    refine own_st (f' := (mkF m 24 #[.val (.int p0), .val (.int p1), .val (.int (own_t0_4 p0 p1)), .val (.int (1 : Int32)), .val (.int (own_t0_22b p0 p1))] [])) (fun t k => XS.istore X10.her hx rfl (hb hby at_22) rfl (l' := #[.val (.int p0), .val (.int p1), .val (.int (own_t0_4 p0 p1)), .val (.int (1 : Int32)), .val (.int (own_t0_22b p0 p1))]) rfl k) ?_
    refine own_st (f' := (mkF m 26 #[.val (.int p0), .val (.int p1), .val (.int (own_t0_4 p0 p1)), .val (.int (1 : Int32)), .val (.int (own_t0_22b p0 p1))] [(.int (own_t0_22b p0 p1))])) (fun t k => XS.iload X10.her hx rfl (hb hby at_24) rfl k) ?_
    by_cases hc11 : (own_t0_22b p0 p1) < (0 : Int32)
    · refine own_st (f' := (mkF m 29 #[.val (.int p0), .val (.int p1), .val (.int (own_t0_4 p0 p1)), .val (.int (1 : Int32)), .val (.int (own_t0_22b p0 p1))] [])) (fun t k => XS.ifNo X10.her hx rfl (hb hby at_26) rfl ((if0 _ _).trans (tlt hc11).2.1) k) ?_
      refine own_st (f' := (mkF m 30 #[.val (.int p0), .val (.int p1), .val (.int (own_t0_4 p0 p1)), .val (.int (1 : Int32)), .val (.int (own_t0_22b p0 p1))] [(.int (0 : Int32))])) (fun t k => XS.iconst X10.her hx rfl (hb hby at_29) k) ?_
      refine own_retN (t := .boolean) X10 hx hret hlk (by simp) (hb hby at_30) (by first | decide | omega) (by first | decide | omega) ?_
      exact congrArg (fun q => some (Value.int q)) (by unfold own_F0; rw [if_neg hc3, if_pos hc11]; first | done | exact by decide)
    · refine own_st (f' := (mkF m 31 #[.val (.int p0), .val (.int p1), .val (.int (own_t0_4 p0 p1)), .val (.int (1 : Int32)), .val (.int (own_t0_22b p0 p1))] [])) (fun t k => XS.ifYes X10.her hx rfl (pc0 := 26) (pc' := 31) rfl (hb hby at_26) rfl ((if0 _ _).trans (flt hc11).2.1) (by decide) (by decide) k) ?_
      refine own_st (f' := (mkF m 33 #[.val (.int p0), .val (.int p1), .val (.int (own_t0_4 p0 p1)), .val (.int (1 : Int32)), .val (.int (own_t0_22b p0 p1))] [(.int (own_t0_22b p0 p1))])) (fun t k => XS.iload X10.her hx rfl (hb hby at_31) rfl k) ?_
      refine own_callSP (y := (⟨"com/example/kripke_over_lattices/kripkeoverlattices/model/DefinitionValues", "definition", "(I)I"⟩ : MethodName)) (W := 0) [(.int (own_t0_22b p0 p1))] X10 hx hZ hown (own_w5 hw) (own_w6 hw) (own_w3 hw) (own_w7 hw) (by decide) (own_c2 l Z a0 hw h0 n0 Z0 (own_t0_22b p0 p1)) (by decide) (by decide) (by decide) (by decide) (by rw [hml]; rfl) own_pd1 rfl rfl (Nat.le_of_eq rfl) (hb hby at_33) ?_
      intro T12 X12
      show own_G p e below _ T12 (mkF m 36 #[.val (.int p0), .val (.int p1), .val (.int (own_t0_4 p0 p1)), .val (.int (1 : Int32)), .val (.int (own_t0_22b p0 p1))] [(.int (own_F2 (own_t0_22b p0 p1)))])
      refine own_st (f' := (mkF m 37 #[.val (.int p0), .val (.int p1), .val (.int (own_t0_4 p0 p1)), .val (.int (1 : Int32)), .val (.int (own_t0_22b p0 p1))] [(.int (own_t0_4 p0 p1)), (.int (own_F2 (own_t0_22b p0 p1)))])) (fun t k => XS.iloadN X12.her hx rfl (hb hby at_36) rfl k) ?_
      by_cases hc13 : (own_F2 (own_t0_22b p0 p1)) = (own_t0_4 p0 p1)
      · refine own_st (f' := (mkF m 42 #[.val (.int p0), .val (.int p1), .val (.int (own_t0_4 p0 p1)), .val (.int (1 : Int32)), .val (.int (own_t0_22b p0 p1))] [])) (fun t k => XS.icmpYes X12.her hx rfl (pc0 := 37) (pc' := 42) rfl (hb hby at_37) rfl (teq hc13).1 (by decide) (by decide) k) ?_
        refine own_st (f' := (mkF m 44 #[.val (.int p0), .val (.int p1), .val (.int (own_t0_4 p0 p1)), .val (.int (1 : Int32)), .val (.int (own_t0_22b p0 p1))] [(.int (own_t0_22b p0 p1))])) (fun t k => XS.iload X12.her hx rfl (hb hby at_42) rfl k) ?_
        refine own_callSP (y := (⟨"com/example/kripke_over_lattices/kripkeoverlattices/model/DefinitionValues", "inSuccessor", "(I)Z"⟩ : MethodName)) (W := 0) [(.int (own_t0_22b p0 p1))] X12 hx hZ hown (own_w8 hw) (own_w9 hw) (own_w3 hw) (own_w10 hw) (by decide) (own_c3 l Z a0 hw h0 n0 Z0 (own_t0_22b p0 p1)) (by decide) (by decide) (by decide) (by decide) (by rw [hml]; rfl) own_pd2 rfl rfl (Nat.le_of_eq rfl) (hb hby at_44) ?_
        intro T14 X14
        show own_G p e below _ T14 (mkF m 47 #[.val (.int p0), .val (.int p1), .val (.int (own_t0_4 p0 p1)), .val (.int (1 : Int32)), .val (.int (own_t0_22b p0 p1))] [(.int (own_F3 (own_t0_22b p0 p1)))])
        refine own_st (f' := (mkF m 48 #[.val (.int p0), .val (.int p1), .val (.int (own_t0_4 p0 p1)), .val (.int (1 : Int32)), .val (.int (own_t0_22b p0 p1))] [(.int (1 : Int32)), (.int (own_F3 (own_t0_22b p0 p1)))])) (fun t k => XS.iloadN X14.her hx rfl (hb hby at_47) rfl k) ?_
        by_cases hc15 : (own_F3 (own_t0_22b p0 p1)) = (1 : Int32)
        · refine own_st (f' := (mkF m 51 #[.val (.int p0), .val (.int p1), .val (.int (own_t0_4 p0 p1)), .val (.int (1 : Int32)), .val (.int (own_t0_22b p0 p1))] [])) (fun t k => XS.icmpNo X14.her hx rfl (hb hby at_48) rfl (teq hc15).2 k) ?_
          refine own_st (f' := (mkF m 52 #[.val (.int p0), .val (.int p1), .val (.int (own_t0_4 p0 p1)), .val (.int (1 : Int32)), .val (.int (own_t0_22b p0 p1))] [(.int (1 : Int32))])) (fun t k => XS.iconst X14.her hx rfl (hb hby at_51) k) ?_
          refine own_st (f' := (mkF m 56 #[.val (.int p0), .val (.int p1), .val (.int (own_t0_4 p0 p1)), .val (.int (1 : Int32)), .val (.int (own_t0_22b p0 p1))] [(.int (1 : Int32))])) (fun t k => XS.goto X14.her hx rfl (pc0 := 52) (pc' := 56) rfl (hb hby at_52) (by decide) (by decide) k) ?_
          refine own_retN (t := .boolean) X14 hx hret hlk (by simp) (hb hby at_56) (by first | decide | omega) (by first | decide | omega) ?_
          exact congrArg (fun q => some (Value.int q)) (by unfold own_F0; rw [if_neg hc3, if_neg hc11, if_pos hc13, if_pos hc15]; first | done | exact by decide)
        · refine own_st (f' := (mkF m 55 #[.val (.int p0), .val (.int p1), .val (.int (own_t0_4 p0 p1)), .val (.int (1 : Int32)), .val (.int (own_t0_22b p0 p1))] [])) (fun t k => XS.icmpYes X14.her hx rfl (pc0 := 48) (pc' := 55) rfl (hb hby at_48) rfl (feq hc15).2 (by decide) (by decide) k) ?_
          refine own_st (f' := (mkF m 56 #[.val (.int p0), .val (.int p1), .val (.int (own_t0_4 p0 p1)), .val (.int (1 : Int32)), .val (.int (own_t0_22b p0 p1))] [(.int (0 : Int32))])) (fun t k => XS.iconst X14.her hx rfl (hb hby at_55) k) ?_
          refine own_retN (t := .boolean) X14 hx hret hlk (by simp) (hb hby at_56) (by first | decide | omega) (by first | decide | omega) ?_
          exact congrArg (fun q => some (Value.int q)) (by unfold own_F0; rw [if_neg hc3, if_neg hc11, if_pos hc13, if_neg hc15]; first | done | exact by decide)
      · refine own_st (f' := (mkF m 40 #[.val (.int p0), .val (.int p1), .val (.int (own_t0_4 p0 p1)), .val (.int (1 : Int32)), .val (.int (own_t0_22b p0 p1))] [])) (fun t k => XS.icmpNo X12.her hx rfl (hb hby at_37) rfl (feq hc13).1 k) ?_
        refine own_st (f' := (mkF m 41 #[.val (.int p0), .val (.int p1), .val (.int (own_t0_4 p0 p1)), .val (.int (1 : Int32)), .val (.int (own_t0_22b p0 p1))] [(.int (0 : Int32))])) (fun t k => XS.iconst X12.her hx rfl (hb hby at_40) k) ?_
        refine own_retN (t := .boolean) X12 hx hret hlk (by simp) (hb hby at_41) (by first | decide | omega) (by first | decide | omega) ?_
        exact congrArg (fun q => some (Value.int q)) (by unfold own_F0; rw [if_neg hc3, if_neg hc11, if_neg hc13]; first | done | exact by decide)
/-- the plain law -/
theorem own_e (x v : Int32) (h0 : 0 ≤ x.toInt) (h1 : x.toInt < 1073741824) (hv : v.toInt = 0 ∨ v.toInt = 1) : ((2 * x) + v).toInt = 2 * x.toInt + v.toInt := by
  have e2 : (2 : Int32).toInt = 2 := rfl
  have e3 : (2 * x).toInt = 2 * x.toInt := by rw [Jvm.Kit.i32_mul (by rw [e2]; omega) (by rw [e2]; omega), e2]
  rw [Jvm.Kit.i32_add (by omega) (by omega), e3]
theorem own_div (x v : Int32) (h0 : 0 ≤ x.toInt) (h1 : x.toInt < 1073741824) (hv : v.toInt = 0 ∨ v.toInt = 1) : ((2 * x) + v) / 2 = x := by
  have e := own_e x v h0 h1 hv
  apply Int32.toInt_inj.mp
  have e2 : (2 : Int32).toInt = 2 := rfl
  rw [Jvm.Kit.i32_div (by rw [e2]; omega), e2, Int.tdiv_eq_ediv_of_nonneg (by omega), e]
  omega
theorem own_rem (x v : Int32) (h0 : 0 ≤ x.toInt) (h1 : x.toInt < 1073741824) (hv : v.toInt = 0 ∨ v.toInt = 1) : ((2 * x) + v) % 2 = v := by
  have e := own_e x v h0 h1 hv
  apply Int32.toInt_inj.mp
  have e2 : (2 : Int32).toInt = 2 := rfl
  rw [Jvm.Kit.i32_rem_nonneg (by omega), e2, e]
  omega
theorem own_law (p0 p1 : Int32) : own_F0 p0 p1 = 1 := by
  have d : (own_t0_4 p0 p1).toInt = p0.toInt % 2 ^ 30 := Jvm.Kit.i32_mask p0 1073741823 (k := 30) (by decide) (by decide)
  have b0 : 0 ≤ (own_t0_4 p0 p1).toInt := by omega
  have b1 : (own_t0_4 p0 p1).toInt < 1073741824 := by omega
  unfold own_F0
  by_cases h : (p1 &&& (1 : Int32)) = (0 : Int32)
  · have e : own_t0_22 p0 p1 = (2 * own_t0_4 p0 p1) + 0 := rfl
    have z : (0 : Int32).toInt = 0 := rfl
    have n : ¬ own_t0_22 p0 p1 < 0 := by rw [Int32.lt_iff_toInt_lt, e, own_e _ _ b0 b1 (Or.inl rfl), z]; omega
    have f2 : own_F2 (own_t0_22 p0 p1) = own_t0_4 p0 p1 := by rw [e]; exact own_div _ _ b0 b1 (Or.inl rfl)
    have f3 : own_F3 (own_t0_22 p0 p1) = 0 := by unfold own_F3; rw [e, own_rem _ _ b0 b1 (Or.inl rfl)]; decide
    rw [if_pos h, if_neg n, if_pos f2, if_pos f3]
  · have e : own_t0_22b p0 p1 = (2 * own_t0_4 p0 p1) + 1 := rfl
    have z : (0 : Int32).toInt = 0 := rfl
    have z1 : (1 : Int32).toInt = 1 := rfl
    have n : ¬ own_t0_22b p0 p1 < 0 := by rw [Int32.lt_iff_toInt_lt, e, own_e _ _ b0 b1 (Or.inr rfl), z, z1]; omega
    have f2 : own_F2 (own_t0_22b p0 p1) = own_t0_4 p0 p1 := by rw [e]; exact own_div _ _ b0 b1 (Or.inr rfl)
    have f3 : own_F3 (own_t0_22b p0 p1) = 1 := by unfold own_F3; rw [e, own_rem _ _ b0 b1 (Or.inr rfl)]; decide
    rw [if_neg h, if_neg n, if_pos f2, if_pos f3]
set_option maxRecDepth 65536 in
set_option maxHeartbeats 40000000 in
theorem own_comes {Post : Tables → Env → Array Value → State → Outcome → State → Prop} (hpost : ∀ tb e args s v u, (limb_1_1.after args s (.returned v) u = true ∧ limb_1_2.after args s (.returned v) u = true) → FrameEnd s (.returned v) u (Jvm.fieldLocs frame_1_writes args s ++ Jvm.arrayLocs frame_1_arrays args s ++ Jvm.staticLocs frame_1_statics s) 0 0 → Post tb e args s (.returned v) u) :
    ArmFor flags0 classFile x code maxLocals ret World_1 tables_1 room_1 Calls_1 rest_1 Pre_1 Post := by
  intro l hfl _ _ p e ha hc hk s m args below hf hA hF happ hP
  obtain ⟨hcalls, hrest, hpre⟩ := hP
  obtain ⟨-, -, -, hnamed, -, -, -, hat⟩ := (Spec.applies_iff hf).mp happ
  obtain ⟨hg, hn⟩ := and_e (Cond.before_iff.mp (show (Jvm.Cond.and given_1 narrow_1).before args s = true from hpre))
  obtain ⟨g16, g17⟩ := and_e hg
  obtain ⟨g18, g19⟩ := and_e g17
  obtain ⟨w0, w1, rfl⟩ : ∃ w0 w1 : Value, args = #[w0, w1] := by
    have hs : args.size = 2 := by simpa [Cond.value, given_1] using g16
    obtain ⟨L⟩ := args
    match L, hs with
    | [w0, w1], _ => exact ⟨w0, w1, rfl⟩
  have hw := fun d (hd : d ∈ tables_1) => atoms_spec (ws := Jvm.Cond.code x code maxLocals ret :: tables_1) hat d (List.mem_cons_of_mem _ hd)
  obtain ⟨i0, ei0⟩ := is_v g18
  obtain rfl : w0 = (.int i0) := Option.some.inj ei0
  obtain ⟨i1, ei1⟩ := is_v g19
  obtain rfl : w1 = (.int i1) := Option.some.inj ei1
  obtain ⟨n, o, h1, h2, h3, v, L, rfl, ⟨N, -, hv⟩, hq⟩ := own_c0 l s _ hw s.heap s.heap.size (Nat.le_refl _) i0 i1 p e ha hc hk s m _ below hf ((Spec.applies_iff_loose hf).mp happ).1 ⟨rfl, State.Warmed39.refl s, rfl⟩ trivial
  obtain rfl : v = some (.int 1) := by rw [hv, own_law]
  refine ⟨n, _, h1, h2, h3, hpost _ _ _ _ _ _ ⟨Cond.after_iff.mpr rfl, Cond.after_iff.mpr (eq_i res_at (Term.int_eval (1)) rfl)⟩ ⟨hq.1, hq.2.1, (hq.2.2.sift fun y hy => Or.inr (N y hy)).mono (by decide) (by decide)⟩⟩
theorem main_1_1 : Claimed_1_1 := own_comes fun _ _ _ _ _ _ h hF => ⟨h.1, hF⟩
theorem main_1_2 : Claimed_1_2 := own_comes fun _ _ _ _ _ _ h hF => ⟨h.2, hF⟩
end Jvm.Pilot.@@N@@
namespace Jvm.Pilot.@@N@@
open Jvm Jvm.ClassFile Sem Op Lib Jvm.Free Jvm.Stand Jvm.Pilot.@@N@@.Jvm.D
/-! MADE BY PROGRAM (witnessworld.py) out of the Statement's table words and the real class files: 9 classes; the members and pool entries that the words name. The judged class is class 1, her method 1. -/
namespace start1
open Jvm.ClassFile
def u (s : String) : CpInfo := .utf8 (stringToUtf16 s)
/-- a pool by its gaps: so many unusable entries, then the entry; so many at the end -/
def gap : Nat → List CpInfo → List CpInfo
  | 0, r => r
  | n + 1, r => .unusable :: gap n r
def poolList (es : List (Nat × CpInfo)) (last : Nat) : List CpInfo := es.foldr (fun e r => gap e.1 (e.2 :: r)) (gap last [])
def pool (es : List (Nat × CpInfo)) (last : Nat) : Array CpInfo := ⟨poolList es last⟩
def fileOf (pool : Array CpInfo) (this : Nat) (attrs : Array Attribute := #[]) (ms : Array MethodInfo := #[]) (fl : Nat := 33) (sup : Nat := 0) (ifs : Array Nat := #[]) (fds : Array FieldInfo := #[]) : ClassFile where
  minorVersion := 0
  majorVersion := 65
  constantPool := pool
  accessFlags := fl
  thisClass := this
  superClass := sup
  interfaces := ifs
  fields := fds
  methods := ms
  attributes := attrs
def plain (name : String) (sup : Option ClassId) : Class where
  name := name
  kind := .ordinary
  loader := none
  accessFlags := 33
  super := sup
  interfaces := #[]
  cf := none
  fields := #[]
  methods := #[]
  instanceTypes := #[]
  staticTypes := #[]
  resolved := #[]
  callSites := []
  init := .initialized
  statics := none
  mirror := none

def pool0 : Array CpInfo := pool [(5, u "<init>"), (0, u "()V"), (1, .class_ 10), (1, u "java/lang/Object")] 113

def k0m0 : Method := { name := "<init>", desc := "()V", sig := { parameters := [], returnType := none }, accessFlags := 1, code := none }
/-- java/lang/Object -/
def k0 : Class := { plain "java/lang/Object" none with
  accessFlags := 33
  interfaces := #[]
  cf := some (fileOf pool0 8 #[] #[{ accessFlags := 1, nameIndex := 5, descriptorIndex := 6, attributes := #[] }] 33 0 #[] #[])
  fields := #[]
  methods := #[k0m0]
  instanceTypes := #[]
  staticTypes := #[]
  resolved := Array.replicate 124 none
  statics := none }

def pool1 : Array CpInfo := pool [(2, .class_ 4), (1, u "java/lang/Object"), (0, u "<init>"), (0, u "()V"), (0, .integer 1073741823), (0, .methodref 9 10), (0, .class_ 11), (0, .nameAndType 12 13), (0, u "com/example/kripke_over_lattices/kripkeoverlattices/model/DefinitionValues"), (0, u "entry"), (0, u "(IZ)I"), (0, .methodref 9 15), (0, .nameAndType 16 17), (0, u "definition"), (0, u "(I)I"), (0, .methodref 9 19), (0, .nameAndType 20 21), (0, u "inSuccessor"), (0, u "(I)Z"), (0, .class_ 23), (0, u "com/example/kripke_over_lattices/kripkeoverlattices/model/DefinitionValuesEntryPinLaw"), (2, u "law"), (0, u "(II)Z")] 3

def k1m0 : Method := { name := "<init>", desc := "()V", sig := { parameters := [], returnType := none }, accessFlags := 2, code := none }
def k1c1 : Code := { maxStack := 2, maxLocals := 5, code := code, exceptionTable := #[], attributes := #[] }
def k1m1 : Method := { name := "law", desc := "(II)Z", sig := { parameters := [.int, .int], returnType := some .boolean }, accessFlags := 9, code := some k1c1 }
/-- com/example/kripke_over_lattices/kripkeoverlattices/model/DefinitionValuesEntryPinLaw -/
def k1 : Class := { plain "com/example/kripke_over_lattices/kripkeoverlattices/model/DefinitionValuesEntryPinLaw" (some 0) with
  accessFlags := 49
  interfaces := #[]
  cf := some (fileOf pool1 22 #[] #[{ accessFlags := 2, nameIndex := 5, descriptorIndex := 6, attributes := #[] }, { accessFlags := 9, nameIndex := 26, descriptorIndex := 27, attributes := #[] }] 49 2 #[] #[])
  fields := #[]
  methods := #[k1m0, k1m1]
  instanceTypes := #[]
  staticTypes := #[]
  resolved := Array.replicate 31 none
  statics := none }

def pool2 : Array CpInfo := pool [(2, .class_ 4), (1, u "com/example/kripke_over_lattices/kripkeoverlattices/model/DefinitionValues"), (0, u "<init>"), (2, .class_ 10), (1, u "java/lang/Object"), (0, u "()V"), (2, u "generations"), (0, u "[I"), (2, u "byState"), (0, u "Lcom/example/kripke_over_lattices/kripkeoverlattices/model/DefinitionValues$ByState;"), (0, .class_ 21), (0, u "com/example/kripke_over_lattices/kripkeoverlattices/model/DefinitionValues$ByState"), (11, u "evaluated"), (0, u "Lcom/example/kripke_over_lattices/kripkeoverlattices/model/StateExpression;"), (12, u "entry"), (0, u "(IZ)I"), (2, u "workspace"), (0, u "Lcom/example/kripke_over_lattices/kripkeoverlattices/model/StateExpression$Workspace;"), (11, u "variables"), (0, u "Lcom/example/kripke_over_lattices/kripkeoverlattices/model/Variables;"), (2, u "valuation"), (0, u "Lcom/example/kripke_over_lattices/kripkeoverlattices/model/Valuation;"), (2, u "plain"), (2, u "truths"), (4, u "weighted"), (0, u "[Lcom/example/kripke_over_lattices/kripkeoverlattices/model/Weights;"), (2, u "lifetimes"), (2, u "stamps"), (2, u "inSuccessor"), (0, u "(I)Z"), (2, u "definition"), (0, u "(I)I"), (23, u "state"), (0, u "I"), (39, u "STATE"), (2, u "SUCCESSOR")] 25

def k2m0 : Method := { name := "<init>", desc := "()V", sig := { parameters := [], returnType := none }, accessFlags := 1, code := none }
def k2c1 : Code := { maxStack := 2, maxLocals := 2, code := prog_70_method_6_code, exceptionTable := #[], attributes := #[] }
def k2m1 : Method := { name := "entry", desc := "(IZ)I", sig := { parameters := [.int, .boolean], returnType := some .int }, accessFlags := 8, code := some k2c1 }
def k2c2 : Code := { maxStack := 2, maxLocals := 1, code := prog_70_method_7_code, exceptionTable := #[], attributes := #[] }
def k2m2 : Method := { name := "definition", desc := "(I)I", sig := { parameters := [.int], returnType := some .int }, accessFlags := 8, code := some k2c2 }
def k2c3 : Code := { maxStack := 2, maxLocals := 1, code := prog_70_method_8_code, exceptionTable := #[], attributes := #[] }
def k2m3 : Method := { name := "inSuccessor", desc := "(I)Z", sig := { parameters := [.int], returnType := some .boolean }, accessFlags := 8, code := some k2c3 }
/-- com/example/kripke_over_lattices/kripkeoverlattices/model/DefinitionValues -/
def k2 : Class := { plain "com/example/kripke_over_lattices/kripkeoverlattices/model/DefinitionValues" (some 0) with
  accessFlags := 49
  interfaces := #[]
  cf := some (fileOf pool2 2 #[.nestMembers #[20]] #[{ accessFlags := 1, nameIndex := 5, descriptorIndex := 11, attributes := #[] }, { accessFlags := 8, nameIndex := 47, descriptorIndex := 48, attributes := #[] }, { accessFlags := 8, nameIndex := 94, descriptorIndex := 95, attributes := #[] }, { accessFlags := 8, nameIndex := 90, descriptorIndex := 91, attributes := #[] }] 49 8 #[] #[{ accessFlags := 26, nameIndex := 160, descriptorIndex := 120, attributes := #[] }, { accessFlags := 26, nameIndex := 163, descriptorIndex := 120, attributes := #[] }, { accessFlags := 2, nameIndex := 64, descriptorIndex := 65, attributes := #[] }, { accessFlags := 2, nameIndex := 68, descriptorIndex := 69, attributes := #[] }, { accessFlags := 2, nameIndex := 72, descriptorIndex := 15, attributes := #[] }, { accessFlags := 2, nameIndex := 75, descriptorIndex := 15, attributes := #[] }, { accessFlags := 2, nameIndex := 80, descriptorIndex := 81, attributes := #[] }, { accessFlags := 2, nameIndex := 84, descriptorIndex := 15, attributes := #[] }, { accessFlags := 2, nameIndex := 87, descriptorIndex := 15, attributes := #[] }, { accessFlags := 18, nameIndex := 14, descriptorIndex := 15, attributes := #[] }, { accessFlags := 18, nameIndex := 18, descriptorIndex := 19, attributes := #[] }, { accessFlags := 2, nameIndex := 119, descriptorIndex := 120, attributes := #[] }, { accessFlags := 2, nameIndex := 33, descriptorIndex := 34, attributes := #[] }, { accessFlags := 2, nameIndex := 51, descriptorIndex := 52, attributes := #[] }])
  fields := #[{ name := "STATE", type := .int, accessFlags := 26, slot := 0, constantValue := 0 }, { name := "SUCCESSOR", type := .int, accessFlags := 26, slot := 1, constantValue := 0 }, { name := "variables", type := (.object "com/example/kripke_over_lattices/kripkeoverlattices/model/Variables"), accessFlags := 2, slot := 0, constantValue := 0 }, { name := "valuation", type := (.object "com/example/kripke_over_lattices/kripkeoverlattices/model/Valuation"), accessFlags := 2, slot := 1, constantValue := 0 }, { name := "plain", type := (.array .int), accessFlags := 2, slot := 2, constantValue := 0 }, { name := "truths", type := (.array .int), accessFlags := 2, slot := 3, constantValue := 0 }, { name := "weighted", type := (.array (.object "com/example/kripke_over_lattices/kripkeoverlattices/model/Weights")), accessFlags := 2, slot := 4, constantValue := 0 }, { name := "lifetimes", type := (.array .int), accessFlags := 2, slot := 5, constantValue := 0 }, { name := "stamps", type := (.array .int), accessFlags := 2, slot := 6, constantValue := 0 }, { name := "generations", type := (.array .int), accessFlags := 18, slot := 7, constantValue := 0 }, { name := "byState", type := (.object "com/example/kripke_over_lattices/kripkeoverlattices/model/DefinitionValues$ByState"), accessFlags := 18, slot := 8, constantValue := 0 }, { name := "state", type := .int, accessFlags := 2, slot := 9, constantValue := 0 }, { name := "evaluated", type := (.object "com/example/kripke_over_lattices/kripkeoverlattices/model/StateExpression"), accessFlags := 2, slot := 10, constantValue := 0 }, { name := "workspace", type := (.object "com/example/kripke_over_lattices/kripkeoverlattices/model/StateExpression$Workspace"), accessFlags := 2, slot := 11, constantValue := 0 }]
  methods := #[k2m0, k2m1, k2m2, k2m3]
  instanceTypes := #[(.object "com/example/kripke_over_lattices/kripkeoverlattices/model/Variables"), (.object "com/example/kripke_over_lattices/kripkeoverlattices/model/Valuation"), (.array .int), (.array .int), (.array (.object "com/example/kripke_over_lattices/kripkeoverlattices/model/Weights")), (.array .int), (.array .int), (.array .int), (.object "com/example/kripke_over_lattices/kripkeoverlattices/model/DefinitionValues$ByState"), .int, (.object "com/example/kripke_over_lattices/kripkeoverlattices/model/StateExpression"), (.object "com/example/kripke_over_lattices/kripkeoverlattices/model/StateExpression$Workspace")]
  staticTypes := #[.int, .int]
  resolved := Array.replicate 189 none
  statics := none }

def pool3 : Array CpInfo := pool [(1, u "java/lang/Cloneable"), (0, .class_ 1), (0, u "java/lang/Object"), (0, .class_ 3)] 3

/-- java/lang/Cloneable -/
def k3 : Class := { plain "java/lang/Cloneable" (some 0) with
  accessFlags := 1537
  interfaces := #[]
  cf := some (fileOf pool3 2 #[] #[] 1537 4 #[] #[])
  fields := #[]
  methods := #[]
  instanceTypes := #[]
  staticTypes := #[]
  resolved := Array.replicate 8 none
  statics := none }

def pool4 : Array CpInfo := pool [(1, u "java/io/Serializable"), (0, .class_ 1), (0, u "java/lang/Object"), (0, .class_ 3)] 3

/-- java/io/Serializable -/
def k4 : Class := { plain "java/io/Serializable" (some 0) with
  accessFlags := 1537
  interfaces := #[]
  cf := some (fileOf pool4 2 #[] #[] 1537 4 #[] #[])
  fields := #[]
  methods := #[]
  instanceTypes := #[]
  staticTypes := #[]
  resolved := Array.replicate 8 none
  statics := none }

/-- the primitive byte -/
def k5 : Class := { plain "byte" none with kind := .primitive 'B', accessFlags := 0x411 }
/-- [B -/
def k6 : Class := { plain "[B" (some 0) with kind := .array 5 .byte, interfaces := #[3, 4], accessFlags := 1041 }

/-- the primitive int -/
def k7 : Class := { plain "int" none with kind := .primitive 'I', accessFlags := 0x411 }
/-- [I -/
def k8 : Class := { plain "[I" (some 0) with kind := .array 7 .int, interfaces := #[3, 4], accessFlags := 1041 }

def heap : Heap := #[]
def classes : Array Class := #[k0, k1, k2, k3, k4, k5, k6, k7, k8]
def interned : List (Array UInt16 × Addr) := []
def slotsUsed : Nat := 0
def theMethod : MethodId := ⟨1, 1⟩
def args0 : Array Value := #[.int 7, .int 1]
def aboutOver (below : List Frame) : State where
  vm := { classes := classes, interned := interned.toArray }
  heap := heap
  slotsUsed := slotsUsed
  threads := #[{ frames := .invoking theMethod args0 :: below }]
def below0 : List Frame := [.native { method := ⟨0, 0⟩, args := #[] }]
def about1 : State := aboutOver below0
def p0 : Program := .bare "" "" ""
def e0 : Env := launch0.env 0 0 0
theorem w_frames : about1.frames = Frame.invoking theMethod args0 :: below0 := rfl
set_option maxRecDepth 65536 in
theorem w_args : argsFit about1.vm theMethod args0 = true := by decide +kernel
set_option maxRecDepth 65536 in
theorem w_heap : heapFits about1 = true := by decide +kernel
set_option maxRecDepth 65536 in
theorem w_runnable : about1.curStatus? = some .runnable := by decide +kernel
set_option maxRecDepth 65536 in
theorem w_alone : about1.alone = true := by decide +kernel
set_option maxRecDepth 65536 in
theorem w_named : about1.methodNamed? x = some theMethod := by decide +kernel
set_option maxRecDepth 65536 in
theorem w_hears : about1.hears theMethod below0 = true := by decide +kernel
set_option maxRecDepth 65536 in
theorem w_ripe : about1.ripe theMethod args0 below0 = true := by decide +kernel
theorem w_running : about1.status = .running := rfl
set_option maxRecDepth 65536 in
theorem w_room : about1.hasRoom e0.platform room_1 = true :=
  launch0.hasRoom_least _ room_1 (by decide +kernel) (by decide +kernel) (by decide +kernel) (by decide +kernel) (by decide +kernel) (by decide +kernel)
theorem allAtoms_all (ts : List Jvm.Cond) (a : Array Jvm.Value) (st : Jvm.State) : (allAtoms ts).before a st = ts.all (fun c => c.before a st) := by
  induction ts with
  | nil => rfl
  | cons c t ih =>
    show (Jvm.Cond.and c (allAtoms t)).before a st = _
    rw [Jvm.Cond.before_and, ih, List.all_cons]
def words1 : List Jvm.Cond := Jvm.Cond.code x code maxLocals ret :: tables_1
/-- a 'code' word, met by the world's own term for the bytes: nothing is compared byte by byte -/
theorem code_word {y : MethodName} {bytes : ByteArray} {mx : Nat} {rt : Option FieldType} {a : Array Value} {s : State} {m : MethodId} {meth : Method} {c : Code} (h1 : s.methodNamed? y = some m) (h2 : s.vm.method? m = some meth) (h3 : meth.code = some c) (h4 : c.code = bytes)
    (h5 : (c.maxLocals == mx && c.exceptionTable.isEmpty && decide (c.maxStack ≤ mostOperands) && decide (meth.sig.returnType = rt) && !meth.locks && decide (parseMethodDescriptor y.desc = some meth.sig)) = true) : (Jvm.Cond.code y bytes mx rt).before a s = true := by
  simp only [Bool.and_eq_true, beq_iff_eq, Bool.not_eq_true', decide_eq_true_eq] at h5
  obtain ⟨⟨⟨⟨⟨g1, g2⟩, g3⟩, g4⟩, g5⟩, g6⟩ := h5
  simp [Cond.before, Cond.holds, Cond.value, h1, h2, h3, h4, g1, g2, g3, g4, g5, g6]
def isCode : Jvm.Cond → Bool
  | .code _ _ _ _ => true
  | _ => false
theorem all_split {L : List Jvm.Cond} {P : Jvm.Cond → Bool} (h1 : L.all (fun c => isCode c || P c) = true) (h2 : ∀ c ∈ L.filter isCode, P c = true) : L.all P = true := by
  refine List.all_eq_true.mpr fun c hc => ?_
  have h := List.all_eq_true.mp h1 c hc
  rcases Bool.eq_false_or_eq_true (isCode c) with hi | hi
  · exact h2 c (List.mem_filter.mpr ⟨hc, hi⟩)
  · simpa [hi] using h
set_option maxRecDepth 65536 in
theorem w_c0 : (Jvm.Cond.code x code maxLocals ret).before args0 about1 = true := code_word (m := ⟨1, 1⟩) (meth := k1m1) (c := k1c1) (by decide +kernel) rfl rfl rfl (by decide +kernel)
set_option maxRecDepth 65536 in
theorem w_c1 : (Jvm.Cond.code ({ cls := "com/example/kripke_over_lattices/kripkeoverlattices/model/DefinitionValues", name := "entry", desc := "(IZ)I" } : Jvm.MethodName) prog_70_method_6_code (2 : Nat) (Option.some Jvm.ClassFile.FieldType.int)).before args0 about1 = true := code_word (m := ⟨2, 1⟩) (meth := k2m1) (c := k2c1) (by decide +kernel) rfl rfl rfl (by decide +kernel)
set_option maxRecDepth 65536 in
theorem w_c2 : (Jvm.Cond.code ({ cls := "com/example/kripke_over_lattices/kripkeoverlattices/model/DefinitionValues", name := "definition", desc := "(I)I" } : Jvm.MethodName) prog_70_method_7_code (1 : Nat) (Option.some Jvm.ClassFile.FieldType.int)).before args0 about1 = true := code_word (m := ⟨2, 2⟩) (meth := k2m2) (c := k2c2) (by decide +kernel) rfl rfl rfl (by decide +kernel)
set_option maxRecDepth 65536 in
theorem w_c3 : (Jvm.Cond.code ({ cls := "com/example/kripke_over_lattices/kripkeoverlattices/model/DefinitionValues", name := "inSuccessor", desc := "(I)Z" } : Jvm.MethodName) prog_70_method_8_code (1 : Nat) (Option.some Jvm.ClassFile.FieldType.boolean)).before args0 about1 = true := code_word (m := ⟨2, 3⟩) (meth := k2m3) (c := k2c3) (by decide +kernel) rfl rfl rfl (by decide +kernel)
def codes1 : List Jvm.Cond := [Jvm.Cond.code x code maxLocals ret, Jvm.Cond.code ({ cls := "com/example/kripke_over_lattices/kripkeoverlattices/model/DefinitionValues", name := "entry", desc := "(IZ)I" } : Jvm.MethodName) prog_70_method_6_code (2 : Nat) (Option.some Jvm.ClassFile.FieldType.int), Jvm.Cond.code ({ cls := "com/example/kripke_over_lattices/kripkeoverlattices/model/DefinitionValues", name := "definition", desc := "(I)I" } : Jvm.MethodName) prog_70_method_7_code (1 : Nat) (Option.some Jvm.ClassFile.FieldType.int), Jvm.Cond.code ({ cls := "com/example/kripke_over_lattices/kripkeoverlattices/model/DefinitionValues", name := "inSuccessor", desc := "(I)Z" } : Jvm.MethodName) prog_70_method_8_code (1 : Nat) (Option.some Jvm.ClassFile.FieldType.boolean)]
set_option maxRecDepth 65536 in
theorem codes_eq : words1.filter isCode = codes1 := rfl
theorem w_codes : ∀ c ∈ words1.filter isCode, c.before args0 about1 = true := by
  rw [codes_eq]
  intro c hc
  simp only [codes1, List.mem_cons, List.not_mem_nil, or_false] at hc
  rcases hc with rfl | rfl | rfl | rfl
  · exact w_c0
  · exact w_c1
  · exact w_c2
  · exact w_c3
set_option maxRecDepth 65536 in
theorem w_t1 : words1.all (fun c => isCode c || c.before args0 about1) = true := by decide +kernel
theorem w_tables : (allAtoms (Jvm.Cond.code x code maxLocals ret :: tables_1)).before args0 about1 = true := by
  rw [allAtoms_all]
  show words1.all (fun c => c.before args0 about1) = true
  refine all_split ?_ w_codes
  rw [w_t1]
set_option maxRecDepth 65536 in
theorem w_case : (Jvm.Cond.and given_1 narrow_1).before args0 about1 = true := by decide +kernel
theorem w_applies : (headSpec (Jvm.Cond.code x code maxLocals ret :: tables_1) room_1).applies x e0.platform about1 = true :=
  (Spec.applies_iff w_frames).mpr ⟨w_running, w_runnable, w_alone, w_named, w_hears, w_ripe, w_room, w_tables⟩
theorem atStart : AtStart classFile x code maxLocals ret World_1 tables_1 room_1 Calls_1 rest_1 Pre_1 launch0 p0 e0 about1 theMethod args0 below0 :=
  ⟨lists_1, trivial, launch0.admits_env _ _ _, launch0.least_env, fairChoices_fair.cas, fairChoices_fair.clock, w_frames, w_args, w_heap, w_applies, trivial, trivial, w_case⟩
end start1
theorem witness_1 : WitnessClaimed_1 := ⟨start1.p0, start1.e0, start1.about1, start1.theMethod, start1.args0, start1.below0, start1.atStart⟩
end Jvm.Pilot.@@N@@
