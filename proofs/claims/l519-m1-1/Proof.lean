import JvmDerived
import JvmDerived.Pilot.@@N@@Statement
import JvmDerived.Pilot.@@N@@Code
set_option linter.unusedVariables false
set_option linter.unusedSimpArgs false
namespace Jvm.Pilot.@@N@@
open Jvm Jvm.ClassFile Sem Op Lib Jvm.Free Jvm.Stand Jvm.LawKit Jvm.RoadKit Bundle Jvm.Pilot.@@N@@.Jvm.D
section Own
variable {p : Program} {l : Launch} {e : Env} {R : Room} {s : State} {m : MethodId} {args : Array Value} {below : List Frame} {meth : Method} {c : Code} {T T' : State} {locs : List Loc} {cells slots : Nat} {Z : State} {h h' h0 : Heap} {n0 : Nat} {ws : List Addr} {a0 : Array Value}
/-- what is still to be shown: from this frame the run ends as G says -/
def own_G (p : Program) (e : Env) (below : List Frame) (G : Outcome → State → Prop) (T : State) (f : JFrame) : Prop :=
  ∃ s₂ o, Steps p.tables e below (T.setTop f) s₂ ∧ s₂.status = .running ∧ Ended s₂ below o ∧ G o s₂
theorem own_st {G : Outcome → State → Prop} {f f' : JFrame} (q : ∀ t, Steps p.tables e below (T'.setTop f') t → Steps p.tables e below (T.setTop f) t) (k : own_G p e below G T' f') : own_G p e below G T f := by
  obtain ⟨a, o, r1, r2⟩ := k
  exact ⟨a, o, q a r1, r2⟩
theorem own_cast {G : Outcome → State → Prop} {f f' : JFrame} (q : f = f') (k : own_G p e below G T f') : own_G p e below G T f := q ▸ k
def own_D (s : State) (Q : Option Value → Heap → List Loc → Prop) (C S : Nat) (o : Outcome) (U : State) : Prop := ∃ v L, o = .returned v ∧ Q v U.heap L ∧ FrameEnd s o U L C S
def own_Q (n0 : Nat) (h0 : Heap) (ws : List Addr) (P : Option Value → Heap → Prop) (v : Option Value) (h : Heap) (L : List Loc) : Prop := Fr n0 L ∧ Keep h0 h ws ∧ P v h
def own_M (l : Launch) (y : MethodName) (code : ByteArray) (maxL : Nat) (ret : Option FieldType) (wd : List Jvm.Cond) (rm : Room) (Z : State) (as : Array Value) (h0 : Heap) (Q : Option Value → Heap → List Loc → Prop) : Prop :=
  MetFree l y (head1 (Jvm.Cond.code y code maxL ret :: wd) rm) (fun a U => a = as ∧ Z.Warmed39 U.vm ∧ U.heap = h0) (fun _ _ _ _ _ => True) (fun _ U o U' => ∃ v L, o = .returned v ∧ Q v U'.heap L ∧ FrameEnd U o U' L rm.cells rm.slots)
/-- where the walk stands: nothing old but ws was written -/
def own_S (p : Program) (l : Launch) (e : Env) (R : Room) (s : State) (m : MethodId) (args : Array Value) (below : List Frame) (meth : Method) (c : Code) (n0 : Nat) (h0 : Heap) (ws : List Addr) (T : State) (h : Heap) (cells slots : Nat) : Prop :=
  (∃ locs, Stand p l e R s m args below meth c T locs cells slots ∧ Fr n0 locs) ∧ T.heap = h ∧ Keep h0 h ws
theorem own_S.her (X : own_S p l e R s m args below meth c n0 h0 ws T h cells slots) : At T m c below := by
  obtain ⟨⟨_, X, _⟩, _⟩ := X; exact X.here
theorem own_body {y : MethodName} {code : ByteArray} {maxL : Nat} {ret : Option FieldType} {wd : List Jvm.Cond} {rm : Room} {as : Array Value} {P : Option Value → Heap → Prop} (hy : plainFor y = true)
    (B : ∀ (p : Program) (e : Env) (s : State) (m : MethodId) (below : List Frame) (meth : Method) (c : Code) (T : State), own_S p l e rm s m as below meth c n0 h0 ws T h0 0 0 → p.tables.exec = Jvm.exec → c.code = code → c.maxLocals = maxL → s.vm.findClass y.cls = some m.cls → meth.name = y.name → meth.sig.returnType = ret → meth.locks = false → Z.Warmed39 s.vm →
      own_G p e below (own_D s (own_Q n0 h0 ws P) rm.cells rm.slots) T (entryFrame m as maxL)) :
    own_M l y code maxL ret wd rm Z as h0 (own_Q n0 h0 ws P) := by
  refine MetFree.of_bodySF hy hisR ?_
  intro p e s m args below meth c s₁ Bd hml0 hP hK
  obtain ⟨rfl, hZ, hh⟩ := hP
  exact B p e s m below meth c s₁ ⟨⟨[], Stand.of_body Bd, Fr.nil n0⟩, by rw [← hh, Bd.state]; rfl, Keep.refl _ _⟩ Bd.exec Bd.bytes hml0 (findClass_of_methodNamed Bd.named) (name_of_methodNamed Bd.named Bd.method).1 Bd.returns Bd.notSynchronized hZ
section Leave
variable {P : Option Value → Heap → Prop} {pc : Nat} {Ls : Array Slot} {rest : List Value} {C S : Nat}
theorem own_retN {t : FieldType} {z : Int32} (X : own_S p l e R s m args below meth c n0 h0 ws T h cells slots) (hx : p.tables.exec = Jvm.exec) (hret : meth.sig.returnType = some t) (hlk : meth.locks = false) (ht : t = .boolean ∨ t = .byte ∨ t = .char ∨ t = .short) (hd : decode c.code pc = .ok (.ireturn, 1)) (hc : cells ≤ C) (hs : slots ≤ S) (hP : P (some (.int (nar t z))) h) :
    own_G p e below (own_D s (own_Q n0 h0 ws P) C S) T (mkF m pc Ls (.int z :: rest)) := by
  obtain ⟨⟨locs, X, N⟩, rfl, K⟩ := X
  obtain ⟨fs, hr, hrun, hended, hW, hsame⟩ := X.leave (v := some (.int (nar t z))) (fun h => by rw [hret] at h; cases h) hlk
  exact ⟨_, _, retN X hx hret ht hd hr, hrun, hended, _, _, rfl, ⟨N, K, hP⟩, ⟨_, rfl⟩, hW, hsame.mono hc hs⟩
theorem own_retI {z : Int32} (X : own_S p l e R s m args below meth c n0 h0 ws T h cells slots) (hx : p.tables.exec = Jvm.exec) (hret : meth.sig.returnType = some .int) (hlk : meth.locks = false) (hd : decode c.code pc = .ok (.ireturn, 1)) (hc : cells ≤ C) (hs : slots ≤ S) (hP : P (some (.int z)) h) :
    own_G p e below (own_D s (own_Q n0 h0 ws P) C S) T (mkF m pc Ls (.int z :: rest)) := by
  obtain ⟨⟨locs, X, N⟩, rfl, K⟩ := X
  obtain ⟨fs, hr, hrun, hended, hW, hsame⟩ := X.leave (v := some (.int z)) (fun h => by rw [hret] at h; cases h) hlk
  exact ⟨_, _, retOut X hx hret rfl (Or.inl ⟨rfl, Or.inl rfl, _, rfl⟩) hd hr, hrun, hended, _, _, rfl, ⟨N, K, hP⟩, ⟨_, rfl⟩, hW, hsame.mono hc hs⟩
theorem own_retL {z : Int64} (X : own_S p l e R s m args below meth c n0 h0 ws T h cells slots) (hx : p.tables.exec = Jvm.exec) (hret : meth.sig.returnType = some .long) (hlk : meth.locks = false) (hd : decode c.code pc = .ok (.lreturn, 1)) (hc : cells ≤ C) (hs : slots ≤ S) (hP : P (some (.long z)) h) :
    own_G p e below (own_D s (own_Q n0 h0 ws P) C S) T (mkF m pc Ls (.long z :: rest)) := by
  obtain ⟨⟨locs, X, N⟩, rfl, K⟩ := X
  obtain ⟨fs, hr, hrun, hended, hW, hsame⟩ := X.leave (v := some (.long z)) (fun h => by rw [hret] at h; cases h) hlk
  exact ⟨_, _, retOut X hx hret rfl (Or.inr (Or.inl ⟨rfl, rfl, _, rfl⟩)) hd hr, hrun, hended, _, _, rfl, ⟨N, K, hP⟩, ⟨_, rfl⟩, hW, hsame.mono hc hs⟩
theorem own_retA {t : FieldType} {z : Addr} (X : own_S p l e R s m args below meth c n0 h0 ws T h cells slots) (hx : p.tables.exec = Jvm.exec) (hret : meth.sig.returnType = some t) (hlk : meth.locks = false) (ht : t.isReference = true) (hn : narrow t (.ref z) = .ref z) (hd : decode c.code pc = .ok (.areturn, 1)) (hc : cells ≤ C) (hs : slots ≤ S) (hP : P (some (.ref z)) h) :
    own_G p e below (own_D s (own_Q n0 h0 ws P) C S) T (mkF m pc Ls (.ref z :: rest)) := by
  obtain ⟨⟨locs, X, N⟩, rfl, K⟩ := X
  obtain ⟨fs, hr, hrun, hended, hW, hsame⟩ := X.leave (v := some (.ref z)) (fun h => by rw [hret] at h; cases h) hlk
  exact ⟨_, _, retOut X hx hret hn (Or.inr (Or.inr (Or.inr (Or.inr ⟨rfl, ht, rfl⟩)))) hd hr, hrun, hended, _, _, rfl, ⟨N, K, hP⟩, ⟨_, rfl⟩, hW, hsame.mono hc hs⟩
theorem own_ret0 (X : own_S p l e R s m args below meth c n0 h0 ws T h cells slots) (hx : p.tables.exec = Jvm.exec) (hret : meth.sig.returnType = none) (hlk : meth.locks = false) (hd : decode c.code pc = .ok (.return_, 1)) (hc : cells ≤ C) (hs : slots ≤ S) (hP : P none h) :
    own_G p e below (own_D s (own_Q n0 h0 ws P) C S) T (mkF m pc Ls []) := by
  obtain ⟨⟨locs, X, N⟩, rfl, K⟩ := X
  obtain ⟨fs, hr, hrun, hended, hW, hsame⟩ := X.leave (v := none) (fun _ => rfl) hlk
  exact ⟨_, _, X.returnOut hx hret hd hr, hrun, hended, _, _, rfl, ⟨N, K, hP⟩, ⟨_, rfl⟩, hW, hsame.mono hc hs⟩
end Leave
section Calls
variable {y : MethodName} {bytes : ByteArray} {maxL : Nat} {ret : Option FieldType} {rm : Room} {W : Nat} {own : String} {index : Nat} {P : Option Value → Heap → Prop} {wsc : List Addr} {G : Outcome → State → Prop} {pc : Nat} {Ls : Array Slot} {rest stk : List Value} {ps : List FieldType} {r : Option FieldType}
theorem own_callS (as : List Value) (X : own_S p l e R s m args below meth c n0 h0 ws T h cells slots) (hx : p.tables.exec = Jvm.exec) (hZ : Z.Warmed39 s.vm) (hown : s.vm.findClass own = some m.cls)
    (w1 : (Jvm.Cond.methodLink own index y).before a0 Z = true) (w2 : (Jvm.Cond.static y).before a0 Z = true) (w3 : (Jvm.Cond.initialized y.cls).before a0 Z = true) (w4 : (Jvm.Cond.code y bytes maxL ret).before a0 Z = true) (hy : y.cls ≠ "java/lang/invoke/MethodHandle" ∧ y.cls ≠ "java/lang/invoke/VarHandle")
    (M : own_M l y bytes maxL ret [] rm Z as.toArray h (own_Q n0 h wsc P)) (q : ∀ x ∈ wsc, x ∈ ws ∨ h0.size ≤ x)
    (hf : rm.frames + 1 ≤ R.frames) (hl : W + (maxL + 11) + rm.locals ≤ R.locals) (hc : cells + rm.cells ≤ R.cells) (hs : slots + rm.slots ≤ R.slots) (hsize : Ls.size = c.maxLocals)
    (hlen : parseMethodDescriptor y.desc = some ⟨ps, r⟩) (hlen' : as.length = ps.length) (hstk : stk = as.reverse ++ rest) (hW : (rest.map fun v => v.category).sum ≤ W) (hd : decode c.code pc = .ok (.invokestatic index, 3))
    (k : ∀ v T' h', own_S p l e R s m args below meth c n0 h0 ws T' h' (cells + rm.cells) (slots + rm.slots) → Keep h h' wsc → P v h' → own_G p e below G T' (mkF m (pc + 3) Ls (v.toList ++ rest))) :
    own_G p e below G T (mkF m pc Ls stk) := by
  obtain ⟨⟨locs, X, N⟩, e0, K⟩ := X
  obtain ⟨v, vm₁, ⟨T', L', k', n'⟩, -, X', ⟨Lc, hQ, l', y', z'⟩, st⟩ := Jvm.LawKit.callS X hx (y := y) hown (mvT hZ w1) (mvT hZ w2) (mvT hZ w3) (mvT hZ w4) hy (backOf (W := W) M hZ w4 w3 hf hl) (g := mkF m pc Ls stk) rfl hsize (argsL := as) (rest := rest) (lenOf hlen hlen') hstk (by show 2 * 0 + _ ≤ _; rw [Nat.mul_zero, Nat.zero_add]; exact hW) hd (fun _ _ => ⟨rfl, e0, hc, hs⟩)
  dsimp only [Pt.U, Pt.locs, Pt.cells, Pt.slots] at X' l' y' z' st hQ
  subst l' y' z'
  obtain ⟨N', K', hP⟩ := hQ
  exact own_st st (k v T' _ ⟨⟨_, X', N.app N'⟩, rfl, K.trans K' q⟩ K' hP)
theorem own_callC (as : List Value) {a : Addr} (X : own_S p l e R s m args below meth c n0 h0 ws T h cells slots) (hx : p.tables.exec = Jvm.exec) (hZ : Z.Warmed39 s.vm) (hown : s.vm.findClass own = some m.cls) (hy1 : y.name = "<init>")
    (w1 : (Jvm.Cond.methodLink own index y).before a0 Z = true) (w2 : (Jvm.Cond.instanceMethod y).before a0 Z = true) (w3 : (Jvm.Cond.initialized y.cls).before a0 Z = true) (w4 : (Jvm.Cond.code y bytes maxL none).before a0 Z = true) (hy : y.cls ≠ "java/lang/invoke/MethodHandle" ∧ y.cls ≠ "java/lang/invoke/VarHandle")
    (M : own_M l y bytes maxL none [] rm Z (Value.ref a :: as).toArray h (own_Q n0 h wsc P)) (q : ∀ x ∈ wsc, x ∈ ws ∨ h0.size ≤ x)
    (hf : rm.frames + 1 ≤ R.frames) (hl : W + (maxL + 11) + rm.locals ≤ R.locals) (hc : cells + rm.cells ≤ R.cells) (hs : slots + rm.slots ≤ R.slots) (hsize : Ls.size = c.maxLocals)
    (hlen : parseMethodDescriptor y.desc = some ⟨ps, r⟩) (hlen' : as.length = ps.length) (hstk : stk = as.reverse ++ .ref a :: rest) (hW : (rest.map fun v => v.category).sum ≤ W) (hd : decode c.code pc = .ok (.invokespecial index, 3))
    (k : ∀ v T' h', own_S p l e R s m args below meth c n0 h0 ws T' h' (cells + rm.cells) (slots + rm.slots) → Keep h h' wsc → P v h' → own_G p e below G T' (mkF m (pc + 3) Ls (v.toList ++ rest))) :
    own_G p e below G T (mkF m pc Ls stk) := by
  obtain ⟨⟨locs, X, N⟩, e0, K⟩ := X
  obtain ⟨v, vm₁, ⟨T', L', k', n'⟩, -, X', ⟨Lc, hQ, l', y', z'⟩, st⟩ := X.specialBack hx (y := y) hy1 hown (mvT hZ w1) (mvT hZ w2) (mvT hZ w4) hy (backOf (W := W) M hZ w4 w3 hf hl) (g := mkF m pc Ls stk) rfl hsize (Steps.refl _) (a := a) (argsL := as) (rest := rest) (lenOf hlen hlen') hstk (by show 2 * 0 + _ ≤ _; rw [Nat.mul_zero, Nat.zero_add]; exact hW) hd (fun _ _ => ⟨rfl, e0, hc, hs⟩)
  dsimp only [Pt.U, Pt.locs, Pt.cells, Pt.slots] at X' l' y' z' st hQ
  subst l' y' z'
  obtain ⟨N', K', hP⟩ := hQ
  exact own_st (fun t => st.trans) (k v T' _ ⟨⟨_, X', N.app N'⟩, rfl, K.trans K' q⟩ K' hP)
theorem own_callV (as : List Value) {a : Addr} (X : own_S p l e R s m args below meth c n0 h0 ws T h cells slots) (hx : p.tables.exec = Jvm.exec) (hZ : Z.Warmed39 s.vm) (hown : s.vm.findClass own = some m.cls)
    (w1 : (Jvm.Cond.methodLink own index y).before a0 Z = true) (w2 : (Jvm.Cond.declares y).before a0 Z = true) (w3 : (Jvm.Cond.selects y.cls y y).before a0 Z = true) (w5 : (Jvm.Cond.instanceMethod y).before a0 Z = true) (w6 : (Jvm.Cond.initialized y.cls).before a0 Z = true) (w4 : (Jvm.Cond.code y bytes maxL ret).before a0 Z = true) (hy : y.cls ≠ "java/lang/invoke/MethodHandle" ∧ y.cls ≠ "java/lang/invoke/VarHandle")
    (E : Exa Z h a y.cls)
    (M : own_M l y bytes maxL ret [] rm Z (Value.ref a :: as).toArray h (own_Q n0 h wsc P)) (q : ∀ x ∈ wsc, x ∈ ws ∨ h0.size ≤ x)
    (hf : rm.frames + 1 ≤ R.frames) (hl : W + (maxL + 11) + rm.locals ≤ R.locals) (hc : cells + rm.cells ≤ R.cells) (hs : slots + rm.slots ≤ R.slots) (hsize : Ls.size = c.maxLocals)
    (hlen : parseMethodDescriptor y.desc = some ⟨ps, r⟩) (hlen' : as.length = ps.length) (hstk : stk = as.reverse ++ .ref a :: rest) (hW : (rest.map fun v => v.category).sum ≤ W) (hd : decode c.code pc = .ok (.invokevirtual index, 3))
    (k : ∀ v T' h', own_S p l e R s m args below meth c n0 h0 ws T' h' (cells + rm.cells) (slots + rm.slots) → Keep h h' wsc → P v h' → own_G p e below G T' (mkF m (pc + 3) Ls (v.toList ++ rest))) :
    own_G p e below G T (mkF m pc Ls stk) := by
  obtain ⟨⟨locs, X, N⟩, e0, K⟩ := X
  obtain ⟨cq, kq, qa, qb, qc⟩ := isOf hZ e0 E
  obtain ⟨v, vm₁, ⟨T', L', k', n'⟩, -, X', ⟨Lc, hQ, l', y', z'⟩, st⟩ := X.virtualBack hx (y := y) (z := y) hown (mvT hZ w1) (mvT hZ w2) (notFace_of_selects (args := #[]) (mvT hZ w3)) (mvT hZ w3) (mvT hZ w5) hy (backOf (W := W) M hZ w4 w6 hf hl) qa qc (g := mkF m pc Ls stk) rfl hsize (Steps.refl _) (argsL := as) (rest := rest) (lenOf hlen hlen') hstk (by show 2 * 0 + _ ≤ _; rw [Nat.mul_zero, Nat.zero_add]; exact hW) hd (fun _ _ => ⟨rfl, e0, hc, hs⟩)
  dsimp only [Pt.U, Pt.locs, Pt.cells, Pt.slots] at X' l' y' z' st hQ
  subst l' y' z'
  obtain ⟨N', K', hP⟩ := hQ
  exact own_st (fun t => st.trans) (k v T' _ ⟨⟨_, X', N.app N'⟩, rfl, K.trans K' q⟩ K' hP)
theorem own_initO {a : Addr} (X : own_S p l e R s m args below meth c n0 h0 ws T h cells slots) (hx : p.tables.exec = Jvm.exec) (hZ : Z.Warmed39 s.vm) (hown : s.vm.findClass own = some m.cls)
    (w1 : (Jvm.Cond.methodLink own index Lib.objectInit).before a0 Z = true) (w2 : (Jvm.Cond.instanceMethod Lib.objectInit).before a0 Z = true) (w3 : (Jvm.Cond.code Lib.objectInit ⟨#[0xb1]⟩ 1 none).before a0 Z = true)
    (hf : 1 ≤ R.frames) (hl : W + 12 ≤ R.locals) (hsize : Ls.size = c.maxLocals) (hW : (rest.map fun v => v.category).sum ≤ W) (hd : decode c.code pc = .ok (.invokespecial index, 3))
    (k : ∀ T', own_S p l e R s m args below meth c n0 h0 ws T' h cells slots → own_G p e below G T' (mkF m (pc + 3) Ls rest)) :
    own_G p e below G T (mkF m pc Ls (.ref a :: rest)) := by
  obtain ⟨⟨locs, X, N⟩, e0, K⟩ := X
  obtain ⟨T1, X1, e1, st⟩ := initO X hx hZ hown w1 w2 w3 e0 (g := mkF m pc Ls (.ref a :: rest)) rfl hsize rfl hd hf (W := W) (by show 2 * 0 + _ ≤ _; rw [Nat.mul_zero, Nat.zero_add]; exact hW) hl
  exact own_st st (k T1 ⟨⟨_, X1, N⟩, e1, K⟩)
/-- a pure callee: it returns this and leaves the heap -/
def own_P (val : Value) (h0 : Heap) (v : Option Value) (h : Heap) : Prop := v = some val ∧ h = h0
theorem own_callSP (as : List Value) {val : Value} (X : own_S p l e R s m args below meth c n0 h0 ws T h cells slots) (hx : p.tables.exec = Jvm.exec) (hZ : Z.Warmed39 s.vm) (hown : s.vm.findClass own = some m.cls)
    (w1 : (Jvm.Cond.methodLink own index y).before a0 Z = true) (w2 : (Jvm.Cond.static y).before a0 Z = true) (w3 : (Jvm.Cond.initialized y.cls).before a0 Z = true) (w4 : (Jvm.Cond.code y bytes maxL ret).before a0 Z = true) (hy : y.cls ≠ "java/lang/invoke/MethodHandle" ∧ y.cls ≠ "java/lang/invoke/VarHandle")
    (M : own_M l y bytes maxL ret [] rm Z as.toArray h (own_Q n0 h [] (own_P val h)))
    (hf : rm.frames + 1 ≤ R.frames) (hl : W + (maxL + 11) + rm.locals ≤ R.locals) (hc : cells + rm.cells ≤ R.cells) (hs : slots + rm.slots ≤ R.slots) (hsize : Ls.size = c.maxLocals)
    (hlen : parseMethodDescriptor y.desc = some ⟨ps, r⟩) (hlen' : as.length = ps.length) (hstk : stk = as.reverse ++ rest) (hW : (rest.map fun v => v.category).sum ≤ W) (hd : decode c.code pc = .ok (.invokestatic index, 3))
    (k : ∀ T', own_S p l e R s m args below meth c n0 h0 ws T' h (cells + rm.cells) (slots + rm.slots) → own_G p e below G T' (mkF m (pc + 3) Ls (val :: rest))) :
    own_G p e below G T (mkF m pc Ls stk) :=
  own_callS as X hx hZ hown w1 w2 w3 w4 hy M (fun _ q => nomatch q) hf hl hc hs hsize hlen hlen' hstk hW hd fun v T' h' X' _ hv => by
    obtain ⟨hv, hh⟩ := hv
    rw [hv]; rw [hh] at X'
    exact k T' X'
/-- a callee that returns nothing and leaves the heap -/
def own_N (h0 : Heap) (v : Option Value) (h : Heap) : Prop := v = none ∧ h = h0
theorem own_callCN (as : List Value) {a : Addr} (X : own_S p l e R s m args below meth c n0 h0 ws T h cells slots) (hx : p.tables.exec = Jvm.exec) (hZ : Z.Warmed39 s.vm) (hown : s.vm.findClass own = some m.cls) (hy1 : y.name = "<init>")
    (w1 : (Jvm.Cond.methodLink own index y).before a0 Z = true) (w2 : (Jvm.Cond.instanceMethod y).before a0 Z = true) (w3 : (Jvm.Cond.initialized y.cls).before a0 Z = true) (w4 : (Jvm.Cond.code y bytes maxL none).before a0 Z = true) (hy : y.cls ≠ "java/lang/invoke/MethodHandle" ∧ y.cls ≠ "java/lang/invoke/VarHandle")
    (M : own_M l y bytes maxL none [] rm Z (Value.ref a :: as).toArray h (own_Q n0 h [] (own_N h)))
    (hf : rm.frames + 1 ≤ R.frames) (hl : W + (maxL + 11) + rm.locals ≤ R.locals) (hc : cells + rm.cells ≤ R.cells) (hs : slots + rm.slots ≤ R.slots) (hsize : Ls.size = c.maxLocals)
    (hlen : parseMethodDescriptor y.desc = some ⟨ps, r⟩) (hlen' : as.length = ps.length) (hstk : stk = as.reverse ++ .ref a :: rest) (hW : (rest.map fun v => v.category).sum ≤ W) (hd : decode c.code pc = .ok (.invokespecial index, 3))
    (k : ∀ T', own_S p l e R s m args below meth c n0 h0 ws T' h (cells + rm.cells) (slots + rm.slots) → own_G p e below G T' (mkF m (pc + 3) Ls rest)) :
    own_G p e below G T (mkF m pc Ls stk) :=
  own_callC as X hx hZ hown hy1 w1 w2 w3 w4 hy M (fun _ q => nomatch q) hf hl hc hs hsize hlen hlen' hstk hW hd fun v T' h' X' _ hv => by
    obtain ⟨hv, hh⟩ := hv
    rw [hv]; rw [hh] at X'
    exact k T' X'
theorem own_callVP (as : List Value) {val : Value} {a : Addr} (X : own_S p l e R s m args below meth c n0 h0 ws T h cells slots) (hx : p.tables.exec = Jvm.exec) (hZ : Z.Warmed39 s.vm) (hown : s.vm.findClass own = some m.cls)
    (w1 : (Jvm.Cond.methodLink own index y).before a0 Z = true) (w2 : (Jvm.Cond.declares y).before a0 Z = true) (w3 : (Jvm.Cond.selects y.cls y y).before a0 Z = true) (w5 : (Jvm.Cond.instanceMethod y).before a0 Z = true) (w6 : (Jvm.Cond.initialized y.cls).before a0 Z = true) (w4 : (Jvm.Cond.code y bytes maxL ret).before a0 Z = true) (hy : y.cls ≠ "java/lang/invoke/MethodHandle" ∧ y.cls ≠ "java/lang/invoke/VarHandle")
    (E : Exa Z h a y.cls)
    (M : own_M l y bytes maxL ret [] rm Z (Value.ref a :: as).toArray h (own_Q n0 h [] (own_P val h)))
    (hf : rm.frames + 1 ≤ R.frames) (hl : W + (maxL + 11) + rm.locals ≤ R.locals) (hc : cells + rm.cells ≤ R.cells) (hs : slots + rm.slots ≤ R.slots) (hsize : Ls.size = c.maxLocals)
    (hlen : parseMethodDescriptor y.desc = some ⟨ps, r⟩) (hlen' : as.length = ps.length) (hstk : stk = as.reverse ++ .ref a :: rest) (hW : (rest.map fun v => v.category).sum ≤ W) (hd : decode c.code pc = .ok (.invokevirtual index, 3))
    (k : ∀ T', own_S p l e R s m args below meth c n0 h0 ws T' h (cells + rm.cells) (slots + rm.slots) → own_G p e below G T' (mkF m (pc + 3) Ls (val :: rest))) :
    own_G p e below G T (mkF m pc Ls stk) :=
  own_callV as X hx hZ hown w1 w2 w3 w5 w6 w4 hy E M (fun _ q => nomatch q) hf hl hc hs hsize hlen hlen' hstk hW hd fun v T' h' X' _ hv => by
    obtain ⟨hv, hh⟩ := hv
    rw [hv]; rw [hh] at X'
    exact k T' X'
theorem own_irem {x z : Int32} (X : own_S p l e R s m args below meth c n0 h0 ws T h cells slots) (hx : p.tables.exec = Jvm.exec) (hd : decode c.code pc = .ok (.irem, 1)) (hz : z ≠ 0)
    (k : own_G p e below G T (mkF m (pc + 1) Ls (.int (x % z) :: rest))) : own_G p e below G T (mkF m pc Ls (.int z :: .int x :: rest)) :=
  own_st (fun t k => XS.irem X.her hx rfl hd rfl hz (by rw [irem_eq_mod]; exact k)) k
theorem own_lrem {x z : Int64} (X : own_S p l e R s m args below meth c n0 h0 ws T h cells slots) (hx : p.tables.exec = Jvm.exec) (hd : decode c.code pc = .ok (.lrem, 1)) (hz : z ≠ 0)
    (k : own_G p e below G T (mkF m (pc + 1) Ls (.long (x % z) :: rest))) : own_G p e below G T (mkF m pc Ls (.long z :: .long x :: rest)) :=
  own_st (fun t k => XS.lrem X.her hx rfl hd rfl hz (by rw [lrem_mod]; exact k)) k
theorem own_b2 (x : Int32) : x.toInt8.toInt32.toInt8.toInt32 = x.toInt8.toInt32 := by simp
end Calls
section Heap
variable {own : String} {index : Nat} {G : Outcome → State → Prop} {pc : Nat} {Ls : Array Slot} {rest : List Value}
theorem own_ldcI {v : Int32} (X : own_S p l e R s m args below meth c n0 h0 ws T h cells slots) (hx : p.tables.exec = Jvm.exec) (hZ : Z.Warmed39 s.vm) (hown : s.vm.findClass own = some m.cls) (w : (Jvm.Cond.constant own index v).before a0 Z = true) (hd : decode c.code pc = .ok (.ldc index, 2))
    (k : own_G p e below G T (mkF m (pc + 2) Ls (.int v :: rest))) : own_G p e below G T (mkF m pc Ls rest) := by
  obtain ⟨⟨locs, X, N⟩, e0, K⟩ := X
  exact own_st (X.ldcInt hx hown (mvT hZ w) (g := mkF m pc Ls rest) rfl hd) k
theorem own_ldcL {v : Int64} (X : own_S p l e R s m args below meth c n0 h0 ws T h cells slots) (hx : p.tables.exec = Jvm.exec) (hZ : Z.Warmed39 s.vm) (hown : s.vm.findClass own = some m.cls) (w : (Jvm.Cond.constantLong own index v).before a0 Z = true) (hd : decode c.code pc = .ok (.ldc2_w index, 3))
    (k : own_G p e below G T (mkF m (pc + 3) Ls (.long v :: rest))) : own_G p e below G T (mkF m pc Ls rest) := by
  obtain ⟨⟨locs, X, N⟩, e0, K⟩ := X
  exact own_st (X.ldc2Long hx hown (mvT hZ w) (g := mkF m pc Ls rest) rfl hd) k
theorem own_getF {a : Addr} {C n d : String} {v : Value} (X : own_S p l e R s m args below meth c n0 h0 ws T h cells slots) (hx : p.tables.exec = Jvm.exec) (hZ : Z.Warmed39 s.vm) (hown : s.vm.findClass own = some m.cls) (w : (Jvm.Cond.fieldLink own index C n d).before a0 Z = true) (F : Fld Z h a C n d v) (hd : decode c.code pc = .ok (.getfield index, 3))
    (k : ∀ T', own_S p l e R s m args below meth c n0 h0 ws T' h cells slots → own_G p e below G T' (mkF m (pc + 3) Ls (v :: rest))) : own_G p e below G T (mkF m pc Ls (.ref a :: rest)) := by
  obtain ⟨⟨locs, X, N⟩, e0, K⟩ := X
  obtain ⟨T1, X1, e1, st⟩ := getF X hx hZ hown (host := "") (Or.inl w) Via.refl e0 F (g := mkF m pc Ls (.ref a :: rest)) rfl rfl hd
  exact own_st st (k T1 ⟨⟨_, X1, N⟩, e1, K⟩)
theorem own_getS {C n d : String} {v : Value} (X : own_S p l e R s m args below meth c n0 h0 ws T h cells slots) (hx : p.tables.exec = Jvm.exec) (hZ : Z.Warmed39 s.vm) (hown : s.vm.findClass own = some m.cls) (w : (Jvm.Cond.fieldLink own index C n d).before a0 Z = true) (F : Sta Z h C n d v) (hd : decode c.code pc = .ok (.getstatic index, 3))
    (k : ∀ T', own_S p l e R s m args below meth c n0 h0 ws T' h cells slots → own_G p e below G T' (mkF m (pc + 3) Ls (v :: rest))) : own_G p e below G T (mkF m pc Ls rest) := by
  obtain ⟨⟨locs, X, N⟩, e0, K⟩ := X
  obtain ⟨T1, X1, e1, st⟩ := getS2 X hx hZ hown (host := "") (Or.inl w) Via.refl e0 F (g := mkF m pc Ls rest) rfl hd
  exact own_st st (k T1 ⟨⟨_, X1, N⟩, e1, K⟩)
theorem own_putF {a : Addr} {C n d : String} {v old : Value} {kk : Nat} {ty : FieldType} (X : own_S p l e R s m args below meth c n0 h0 ws T h cells slots) (hx : p.tables.exec = Jvm.exec) (hZ : Z.Warmed39 s.vm) (hown : s.vm.findClass own = some m.cls) (w : (Jvm.Cond.fieldLink own index C n d).before a0 Z = true) (F : Fld Z h a C n d old) (E : Exa Z h a C)
    (L : (Jvm.Cond.lays C C n d).before a0 Z = true ∨ ((Jvm.Cond.laysFinal C C n d).before a0 Z = true ∧ own = C ∧ meth.name = "<init>")) (wi : (Jvm.Cond.instantiable C kk).before a0 Z = true) (hty : parseFieldDescriptor d = some ty) (hn : narrow ty v = v) (hf : fits ty v = true) (hd : decode c.code pc = .ok (.putfield index, 3)) (ga : n0 ≤ a) (qa : a ∈ ws ∨ h0.size ≤ a)
    (k : ∀ T' h', own_S p l e R s m args below meth c n0 h0 ws T' h' cells slots → Wr h h' a (Jvm.RoadKit.slotOf Z C n d) v → Fld Z h' a C n d v → Exa Z h' a C → own_G p e below G T' (mkF m (pc + 3) Ls rest)) : own_G p e below G T (mkF m pc Ls (v :: .ref a :: rest)) := by
  obtain ⟨⟨locs, X, N⟩, e0, K⟩ := X
  obtain ⟨T1, h1, X1, e1, W1, st⟩ := putF X hx hZ hown (host := "") (Or.inl w) Via.refl e0 F E L wi hty hn hf (g := mkF m pc Ls (v :: .ref a :: rest)) rfl rfl hd
  exact own_st st (k T1 h1 ⟨⟨_, X1, Fr.snoc X1 N ga⟩, e1, K.wr W1 qa⟩ W1 (F.same W1) (E.wr W1))
theorem own_newO {C : String} {kk : Nat} (X : own_S p l e R s m args below meth c n0 h0 ws T h cells slots) (hx : p.tables.exec = Jvm.exec) (hZ : Z.Warmed39 s.vm) (hown : s.vm.findClass own = some m.cls) (w : (Jvm.Cond.classLink own index C).before a0 Z = true) (wi : (Jvm.Cond.instantiable C kk).before a0 Z = true) (wz : (Jvm.Cond.initialized C).before a0 Z = true) (hd : decode c.code pc = .ok (.new index, 3)) (hc : cells + 1 ≤ R.cells) (hl : slots + kk ≤ R.slots)
    (k : ∀ T' h' (b : Addr), b = h.size → h0.size ≤ b → own_S p l e R s m args below meth c n0 h0 ws T' h' (cells + 1) (slots + kk) → Ext h h' → Exa Z h' b C → (∀ {O nm d : String} {ty : FieldType}, Laid Z a0 C O nm d → parseFieldDescriptor d = some ty → Fld Z h' b O nm d (defaultValue ty)) → own_G p e below G T' (mkF m (pc + 3) Ls (.ref b :: rest))) : own_G p e below G T (mkF m pc Ls rest) := by
  obtain ⟨⟨locs, X, N⟩, e0, K⟩ := X
  obtain ⟨T1, h1, X1, e1, E1, A1, D1, -, st⟩ := newO X hx hZ hown w wi wz e0 (g := mkF m pc Ls rest) rfl hd hc hl
  exact own_st st (k T1 h1 _ rfl K.1 ⟨⟨_, X1, N⟩, e1, K.ext E1⟩ E1 A1 D1)
/-- a byte array with these elements -/
def own_B (Z : State) (h : Heap) (a : Addr) (L : List Int32) : Prop := ∃ c : Cell, Arr Z h a c .byte ∧ c.slots = (L.map Value.int).toArray
theorem own_B.lt {a : Addr} {L : List Int32} (B : own_B Z h a L) : a < h.size := by obtain ⟨c, A, _⟩ := B; exact A.lt
theorem own_B.ext {a : Addr} {L : List Int32} (B : own_B Z h a L) (E : Ext h h') : own_B Z h' a L := by obtain ⟨c, A, q⟩ := B; exact ⟨c, A.ext E, q⟩
theorem own_B.other {a b : Addr} {L : List Int32} {sl : Nat} {v : Value} (B : own_B Z h b L) (W : Wr h h' a sl v) (q : b ≠ a) : own_B Z h' b L := by obtain ⟨c, A, r⟩ := B; exact ⟨c, A.other W q, r⟩
theorem own_B.keep {a : Addr} {L : List Int32} (B : own_B Z h a L) (K : Keep h h' ws) (q : a ∉ ws) : own_B Z h' a L := by obtain ⟨c, A, r⟩ := B; exact ⟨c, ⟨K.2.1 a c A.1 q, A.2⟩, r⟩
theorem own_bload {a : Addr} {L : List Int32} {j v : Int32} (X : own_S p l e R s m args below meth c n0 h0 ws T h cells slots) (hx : p.tables.exec = Jvm.exec) (hZ : Z.Warmed39 s.vm) (B : own_B Z h a L) (hj : ¬ j < 0) (hv : L[j.toNatClampNeg]? = some v) (hd : decode c.code pc = .ok (.baload, 1))
    (k : own_G p e below G T (mkF m (pc + 1) Ls (.int v :: rest))) : own_G p e below G T (mkF m pc Ls (.int j :: .ref a :: rest)) := by
  obtain ⟨⟨locs, X, N⟩, e0, K⟩ := X
  obtain ⟨cl, A, q⟩ := B
  have h1 : cl.slots[j.toNatClampNeg]? = some (.int v) := by rw [q]; simp [hv]
  have h2 : ¬ (j < 0 ∨ cl.slots.size ≤ j.toNatClampNeg) := fun z => z.elim hj fun z => by
    have := (Array.getElem?_eq_some_iff.mp h1).1
    omega
  exact own_st (X.baloadBytes hx (j := j) (v := .int v) (by rw [e0]; exact A.1) (State.isArrayOf_alike hZ.alike A.2.1) A.2.2 h2 h1 (g := mkF m pc Ls (.int j :: .ref a :: rest)) rfl rfl hd) k
theorem own_bstore {a : Addr} {L : List Int32} {j x : Int32} (X : own_S p l e R s m args below meth c n0 h0 ws T h cells slots) (hx : p.tables.exec = Jvm.exec) (hZ : Z.Warmed39 s.vm) (B : own_B Z h a L) (hj : ¬ j < 0) (hv : j.toNatClampNeg < L.length) (hd : decode c.code pc = .ok (.bastore, 1)) (ga : n0 ≤ a) (qa : a ∈ ws ∨ h0.size ≤ a)
    (k : ∀ T' h', own_S p l e R s m args below meth c n0 h0 ws T' h' cells slots → Keep h h' [a] → Wr h h' a j.toNatClampNeg (.int (nar .byte x)) → own_B Z h' a (L.set j.toNatClampNeg x.toInt8.toInt32) → own_G p e below G T' (mkF m (pc + 1) Ls rest)) : own_G p e below G T (mkF m pc Ls (.int x :: .int j :: .ref a :: rest)) := by
  obtain ⟨⟨locs, X, N⟩, e0, K⟩ := X
  obtain ⟨cl, A, q⟩ := B
  have h2 : ¬ (j < 0 ∨ cl.slots.size ≤ j.toNatClampNeg) := fun z => z.elim hj fun z => by
    rw [q] at z
    simp at z
    omega
  obtain ⟨T1, h1, X1, e1, W1, st⟩ := stB X hx hZ e0 A (j := j) (x := x) h2 (g := mkF m pc Ls (.int x :: .int j :: .ref a :: rest)) rfl rfl hd
  refine own_st st (k T1 h1 ⟨⟨_, X1, Fr.snoc X1 N ga⟩, e1, K.wr W1 qa⟩ (Keep.of_wr W1) W1 ⟨_, A.same W1, ?_⟩)
  show (cl.slots.setIfInBounds j.toNatClampNeg _) = _
  rw [q]
  simp [nar]
theorem own_newB {n : Int32} {kk : Nat} (X : own_S p l e R s m args below meth c n0 h0 ws T h cells slots) (hx : p.tables.exec = Jvm.exec) (hZ : Z.Warmed39 s.vm) (w : (Jvm.Cond.arrayClass .byte).before a0 Z = true) (hn : ¬ n < 0) (hk : n.toNatClampNeg = kk) (hb : kk * 8 ≤ 536870912) (hc : cells + 1 ≤ R.cells) (hl : slots + kk ≤ R.slots) (hd : decode c.code pc = .ok (.newarray .byte, 2))
    (k : ∀ T' h' (b : Addr), b = h.size → h0.size ≤ b → own_S p l e R s m args below meth c n0 h0 ws T' h' (cells + 1) (slots + kk) → Ext h h' → own_B Z h' b (List.replicate kk 0) → own_G p e below G T' (mkF m (pc + 2) Ls (.ref b :: rest))) : own_G p e below G T (mkF m pc Ls (.int n :: rest)) := by
  obtain ⟨⟨locs, X, N⟩, e0, K⟩ := X
  obtain ⟨T1, h1, cA, X1, e1, E1, A1, st⟩ := newP X hx hZ (aty := .byte) w e0 (g := mkF m pc Ls (.int n :: rest)) rfl hd rfl hn (cap := kk) (Nat.le_of_eq hk) hb hc hl
  refine own_st st (k T1 h1 _ rfl K.1 ⟨⟨_, X1, N⟩, e1, K.ext E1⟩ E1 ⟨_, A1, ?_⟩)
  show Array.replicate n.toNatClampNeg (defaultValue .byte) = _
  rw [hk]
  simp [defaultValue]
end Heap
end Own
theorem own_w0 {Z : State} {a0 : Array Value} (hw : ∀ d ∈ tables_1, d.before a0 Z = true) : (Jvm.Cond.classLink "com/example/gauge_links/gaugelinks/rank/SplitMix64NextPinLaw" (19 : Nat) "com/example/gauge_links/gaugelinks/rank/SplitMix64").before a0 Z = true := hw _ (List.mem_of_getElem? (i := 0) rfl)
theorem own_w1 {Z : State} {a0 : Array Value} (hw : ∀ d ∈ tables_1, d.before a0 Z = true) : (Jvm.Cond.instantiable "com/example/gauge_links/gaugelinks/rank/SplitMix64" (1 : Nat)).before a0 Z = true := hw _ (List.mem_of_getElem? (i := 1) rfl)
theorem own_w2 {Z : State} {a0 : Array Value} (hw : ∀ d ∈ tables_1, d.before a0 Z = true) : (Jvm.Cond.initialized "com/example/gauge_links/gaugelinks/rank/SplitMix64").before a0 Z = true := hw _ (List.mem_of_getElem? (i := 2) rfl)
theorem own_w3 {Z : State} {a0 : Array Value} (hw : ∀ d ∈ tables_1, d.before a0 Z = true) : (Jvm.Cond.methodLink "com/example/gauge_links/gaugelinks/rank/SplitMix64NextPinLaw" (21 : Nat) ({ cls := "com/example/gauge_links/gaugelinks/rank/SplitMix64", name := "<init>", desc := "(J)V" } : Jvm.MethodName)).before a0 Z = true := hw _ (List.mem_of_getElem? (i := 3) rfl)
theorem own_w4 {Z : State} {a0 : Array Value} (hw : ∀ d ∈ tables_1, d.before a0 Z = true) : (Jvm.Cond.instanceMethod ({ cls := "com/example/gauge_links/gaugelinks/rank/SplitMix64", name := "<init>", desc := "(J)V" } : Jvm.MethodName)).before a0 Z = true := hw _ (List.mem_of_getElem? (i := 4) rfl)
theorem own_w5 {Z : State} {a0 : Array Value} (hw : ∀ d ∈ tables_1, d.before a0 Z = true) : (Jvm.Cond.code ({ cls := "com/example/gauge_links/gaugelinks/rank/SplitMix64", name := "<init>", desc := "(J)V" } : Jvm.MethodName) prog_35_method_1_code (3 : Nat) (Option.none : Option Jvm.ClassFile.FieldType)).before a0 Z = true := hw _ (List.mem_of_getElem? (i := 5) rfl)
theorem own_w6 {Z : State} {a0 : Array Value} (hw : ∀ d ∈ tables_1, d.before a0 Z = true) : (Jvm.Cond.methodLink "com/example/gauge_links/gaugelinks/rank/SplitMix64" (1 : Nat) ({ cls := "java/lang/Object", name := "<init>", desc := "()V" } : Jvm.MethodName)).before a0 Z = true := hw _ (List.mem_of_getElem? (i := 6) rfl)
theorem own_w7 {Z : State} {a0 : Array Value} (hw : ∀ d ∈ tables_1, d.before a0 Z = true) : (Jvm.Cond.instanceMethod ({ cls := "java/lang/Object", name := "<init>", desc := "()V" } : Jvm.MethodName)).before a0 Z = true := hw _ (List.mem_of_getElem? (i := 7) rfl)
theorem own_w8 {Z : State} {a0 : Array Value} (hw : ∀ d ∈ tables_1, d.before a0 Z = true) : (Jvm.Cond.code ({ cls := "java/lang/Object", name := "<init>", desc := "()V" } : Jvm.MethodName) object_method_1_code (1 : Nat) (Option.none : Option Jvm.ClassFile.FieldType)).before a0 Z = true := hw _ (List.mem_of_getElem? (i := 8) rfl)
theorem own_w9 {Z : State} {a0 : Array Value} (hw : ∀ d ∈ tables_1, d.before a0 Z = true) : (Jvm.Cond.fieldLink "com/example/gauge_links/gaugelinks/rank/SplitMix64" (7 : Nat) "com/example/gauge_links/gaugelinks/rank/SplitMix64" "state" "J").before a0 Z = true := hw _ (List.mem_of_getElem? (i := 9) rfl)
theorem own_w10 {Z : State} {a0 : Array Value} (hw : ∀ d ∈ tables_1, d.before a0 Z = true) : (Jvm.Cond.lays "com/example/gauge_links/gaugelinks/rank/SplitMix64" "com/example/gauge_links/gaugelinks/rank/SplitMix64" "state" "J").before a0 Z = true := hw _ (List.mem_of_getElem? (i := 10) rfl)
theorem own_w11 {Z : State} {a0 : Array Value} (hw : ∀ d ∈ tables_1, d.before a0 Z = true) : (Jvm.Cond.methodLink "com/example/gauge_links/gaugelinks/rank/SplitMix64NextPinLaw" (24 : Nat) ({ cls := "com/example/gauge_links/gaugelinks/rank/SplitMix64", name := "next", desc := "()J" } : Jvm.MethodName)).before a0 Z = true := hw _ (List.mem_of_getElem? (i := 11) rfl)
theorem own_w12 {Z : State} {a0 : Array Value} (hw : ∀ d ∈ tables_1, d.before a0 Z = true) : (Jvm.Cond.declares ({ cls := "com/example/gauge_links/gaugelinks/rank/SplitMix64", name := "next", desc := "()J" } : Jvm.MethodName)).before a0 Z = true := hw _ (List.mem_of_getElem? (i := 12) rfl)
theorem own_w13 {Z : State} {a0 : Array Value} (hw : ∀ d ∈ tables_1, d.before a0 Z = true) : (Jvm.Cond.instanceMethod ({ cls := "com/example/gauge_links/gaugelinks/rank/SplitMix64", name := "next", desc := "()J" } : Jvm.MethodName)).before a0 Z = true := hw _ (List.mem_of_getElem? (i := 13) rfl)
theorem own_w14 {Z : State} {a0 : Array Value} (hw : ∀ d ∈ tables_1, d.before a0 Z = true) : (Jvm.Cond.selects "com/example/gauge_links/gaugelinks/rank/SplitMix64" ({ cls := "com/example/gauge_links/gaugelinks/rank/SplitMix64", name := "next", desc := "()J" } : Jvm.MethodName) ({ cls := "com/example/gauge_links/gaugelinks/rank/SplitMix64", name := "next", desc := "()J" } : Jvm.MethodName)).before a0 Z = true := hw _ (List.mem_of_getElem? (i := 14) rfl)
theorem own_w15 {Z : State} {a0 : Array Value} (hw : ∀ d ∈ tables_1, d.before a0 Z = true) : (Jvm.Cond.code ({ cls := "com/example/gauge_links/gaugelinks/rank/SplitMix64", name := "next", desc := "()J" } : Jvm.MethodName) prog_35_method_2_code (3 : Nat) (Option.some Jvm.ClassFile.FieldType.long)).before a0 Z = true := hw _ (List.mem_of_getElem? (i := 15) rfl)
theorem own_w16 {Z : State} {a0 : Array Value} (hw : ∀ d ∈ tables_1, d.before a0 Z = true) : (Jvm.Cond.constantLong "com/example/gauge_links/gaugelinks/rank/SplitMix64" (13 : Nat) (-7046029254386353131 : Int64)).before a0 Z = true := hw _ (List.mem_of_getElem? (i := 16) rfl)
theorem own_w17 {Z : State} {a0 : Array Value} (hw : ∀ d ∈ tables_1, d.before a0 Z = true) : (Jvm.Cond.constantLong "com/example/gauge_links/gaugelinks/rank/SplitMix64" (15 : Nat) (-4658895280553007687 : Int64)).before a0 Z = true := hw _ (List.mem_of_getElem? (i := 17) rfl)
theorem own_w18 {Z : State} {a0 : Array Value} (hw : ∀ d ∈ tables_1, d.before a0 Z = true) : (Jvm.Cond.constantLong "com/example/gauge_links/gaugelinks/rank/SplitMix64" (17 : Nat) (-7723592293110705685 : Int64)).before a0 Z = true := hw _ (List.mem_of_getElem? (i := 18) rfl)
theorem own_w19 {Z : State} {a0 : Array Value} (hw : ∀ d ∈ tables_1, d.before a0 Z = true) : (Jvm.Cond.constantLong "com/example/gauge_links/gaugelinks/rank/SplitMix64NextPinLaw" (17 : Nat) (-4658895280553007687 : Int64)).before a0 Z = true := hw _ (List.mem_of_getElem? (i := 19) rfl)
theorem own_w20 {Z : State} {a0 : Array Value} (hw : ∀ d ∈ tables_1, d.before a0 Z = true) : (Jvm.Cond.methodLink "com/example/gauge_links/gaugelinks/rank/SplitMix64NextPinLaw" (13 : Nat) ({ cls := "com/example/gauge_links/gaugelinks/rank/SplitMix64NextPinLaw", name := "inverse", desc := "(J)J" } : Jvm.MethodName)).before a0 Z = true := hw _ (List.mem_of_getElem? (i := 20) rfl)
theorem own_w21 {Z : State} {a0 : Array Value} (hw : ∀ d ∈ tables_1, d.before a0 Z = true) : (Jvm.Cond.static ({ cls := "com/example/gauge_links/gaugelinks/rank/SplitMix64NextPinLaw", name := "inverse", desc := "(J)J" } : Jvm.MethodName)).before a0 Z = true := hw _ (List.mem_of_getElem? (i := 21) rfl)
theorem own_w22 {Z : State} {a0 : Array Value} (hw : ∀ d ∈ tables_1, d.before a0 Z = true) : (Jvm.Cond.initialized "com/example/gauge_links/gaugelinks/rank/SplitMix64NextPinLaw").before a0 Z = true := hw _ (List.mem_of_getElem? (i := 22) rfl)
theorem own_w23 {Z : State} {a0 : Array Value} (hw : ∀ d ∈ tables_1, d.before a0 Z = true) : (Jvm.Cond.code ({ cls := "com/example/gauge_links/gaugelinks/rank/SplitMix64NextPinLaw", name := "inverse", desc := "(J)J" } : Jvm.MethodName) method_2_code (4 : Nat) (Option.some Jvm.ClassFile.FieldType.long)).before a0 Z = true := hw _ (List.mem_of_getElem? (i := 23) rfl)
theorem own_w24 {Z : State} {a0 : Array Value} (hw : ∀ d ∈ tables_1, d.before a0 Z = true) : (Jvm.Cond.constantLong "com/example/gauge_links/gaugelinks/rank/SplitMix64NextPinLaw" (7 : Nat) (2 : Int64)).before a0 Z = true := hw _ (List.mem_of_getElem? (i := 24) rfl)
theorem own_w25 {Z : State} {a0 : Array Value} (hw : ∀ d ∈ tables_1, d.before a0 Z = true) : (Jvm.Cond.constantLong "com/example/gauge_links/gaugelinks/rank/SplitMix64NextPinLaw" (11 : Nat) (-7723592293110705685 : Int64)).before a0 Z = true := hw _ (List.mem_of_getElem? (i := 25) rfl)
theorem own_w26 {Z : State} {a0 : Array Value} (hw : ∀ d ∈ tables_1, d.before a0 Z = true) : (Jvm.Cond.methodLink "com/example/gauge_links/gaugelinks/rank/SplitMix64NextPinLaw" (28 : Nat) ({ cls := "com/example/gauge_links/gaugelinks/rank/SplitMix64NextPinLaw", name := "unmix", desc := "(J)J" } : Jvm.MethodName)).before a0 Z = true := hw _ (List.mem_of_getElem? (i := 26) rfl)
theorem own_w27 {Z : State} {a0 : Array Value} (hw : ∀ d ∈ tables_1, d.before a0 Z = true) : (Jvm.Cond.static ({ cls := "com/example/gauge_links/gaugelinks/rank/SplitMix64NextPinLaw", name := "unmix", desc := "(J)J" } : Jvm.MethodName)).before a0 Z = true := hw _ (List.mem_of_getElem? (i := 27) rfl)
theorem own_w28 {Z : State} {a0 : Array Value} (hw : ∀ d ∈ tables_1, d.before a0 Z = true) : (Jvm.Cond.code ({ cls := "com/example/gauge_links/gaugelinks/rank/SplitMix64NextPinLaw", name := "unmix", desc := "(J)J" } : Jvm.MethodName) method_3_code (4 : Nat) (Option.some Jvm.ClassFile.FieldType.long)).before a0 Z = true := hw _ (List.mem_of_getElem? (i := 28) rfl)
theorem own_w29 {Z : State} {a0 : Array Value} (hw : ∀ d ∈ tables_1, d.before a0 Z = true) : (Jvm.Cond.constantLong "com/example/gauge_links/gaugelinks/rank/SplitMix64NextPinLaw" (31 : Nat) (-7046029254386353131 : Int64)).before a0 Z = true := hw _ (List.mem_of_getElem? (i := 29) rfl)
theorem own_pd0 : parseMethodDescriptor "(J)V" = some ⟨[.long], none⟩ := by decide +kernel
theorem own_pn0 : plainName "com/example/gauge_links/gaugelinks/rank/SplitMix64" = true := by first | (simp [plainName, overriddenIn]; done) | decide +kernel
theorem own_pd1 : parseMethodDescriptor "()J" = some ⟨[], some .long⟩ := by decide +kernel
theorem own_pd2 : parseMethodDescriptor "(J)J" = some ⟨[.long], some .long⟩ := by decide +kernel
theorem own_pn1 : plainName "com/example/gauge_links/gaugelinks/rank/SplitMix64NextPinLaw" = true := by first | (simp [plainName, overriddenIn]; done) | decide +kernel
theorem own_pd3 : parseMethodDescriptor "(J)Z" = some ⟨[.long], some .boolean⟩ := by decide +kernel
theorem d1_0 : decode prog_35_method_1_code 0 = .ok (.aload_n 0, 1) := by decide +kernel
theorem d1_1 : decode prog_35_method_1_code 1 = .ok (.invokespecial 1, 3) := by decide +kernel
theorem d1_4 : decode prog_35_method_1_code 4 = .ok (.aload_n 0, 1) := by decide +kernel
theorem d1_5 : decode prog_35_method_1_code 5 = .ok (.lload_n 1, 1) := by decide +kernel
theorem d1_6 : decode prog_35_method_1_code 6 = .ok (.putfield 7, 3) := by decide +kernel
theorem d1_9 : decode prog_35_method_1_code 9 = .ok (.return_, 1) := by decide +kernel
theorem own_ef1 (m : MethodId) (r0 : Addr) (q1 : Int64) : entryFrame m #[(.ref r0), (.long q1)] 3 = mkF m 0 #[.val (.ref r0), .val (.long q1), .second] [] := by first | (simp [entryFrame, mkF, argsToLocals, Value.category]; done) | rfl
set_option maxRecDepth 65536 in
set_option maxHeartbeats 40000000 in
theorem own_c1 (l : Launch) (Z : State) (a0 : Array Value) (hw : ∀ d ∈ tables_1, d.before a0 Z = true) (h0 : Heap) (n0 : Nat) (Z0 : n0 ≤ h0.size) (r0 : Addr) (q1 : Int64) (E0 : Exa Z h0 r0 "com/example/gauge_links/gaugelinks/rank/SplitMix64") (F0 : Fld Z h0 r0 "com/example/gauge_links/gaugelinks/rank/SplitMix64" "state" "J" (.long (0 : Int64))) (g0 : n0 ≤ r0) :
    own_M l (⟨"com/example/gauge_links/gaugelinks/rank/SplitMix64", "<init>", "(J)V"⟩ : MethodName) prog_35_method_1_code 3 none [] ({ frames := 1, cells := 0, slots := 0, locals := 12 } : Room) Z #[(.ref r0), (.long q1)] h0 (own_Q n0 h0 [r0] (fun v h => v = none ∧ Exa Z h r0 "com/example/gauge_links/gaugelinks/rank/SplitMix64" ∧ Fld Z h r0 "com/example/gauge_links/gaugelinks/rank/SplitMix64" "state" "J" (.long q1))) := by
  refine own_body (plainFor_of_name own_pn0) ?_
  intro p e s m below meth c T0 X0 hx hby hml hown hnm hret hlk hZ
  refine own_cast (own_ef1 m r0 q1) ?_
  refine own_st (f' := (mkF m 1 #[.val (.ref r0), .val (.long q1), .second] [(.ref r0)])) (fun t k => XS.aloadN X0.her hx rfl (hb hby d1_0) rfl rfl k) ?_
  refine own_initO (W := 0) X0 hx hZ hown (own_w6 hw) (own_w7 hw) (own_w8 hw) (by decide) (by decide) (by rw [hml]; rfl) (Nat.le_of_eq rfl) (hb hby d1_1) ?_
  intro T1 X1
  refine own_st (f' := (mkF m 5 #[.val (.ref r0), .val (.long q1), .second] [(.ref r0)])) (fun t k => XS.aloadN X1.her hx rfl (hb hby d1_4) rfl rfl k) ?_
  refine own_st (f' := (mkF m 6 #[.val (.ref r0), .val (.long q1), .second] [(.long q1), (.ref r0)])) (fun t k => XS.lloadN X1.her hx rfl (hb hby d1_5) rfl k) ?_
  refine own_putF X1 hx hZ hown (own_w9 hw) F0 E0 (Or.inl (own_w10 hw)) (own_w1 hw) (ty := .long) (by decide) rfl rfl (hb hby d1_6) g0 (Or.inl (List.mem_cons_self)) ?_
  intro T2 h2 X2 W2 F2 A2
  have Zn2 : n0 ≤ h2.size := by rw [W2.size]; exact Z0
  refine own_ret0 X2 hx hret hlk (hb hby d1_9) (by first | decide | omega) (by first | decide | omega) ?_
  exact ⟨rfl, A2, F2⟩
def own_t3_28 (w : Int64) : Int64 := (((w + (-7046029254386353131 : Int64)) ^^^ (((w + (-7046029254386353131 : Int64)).toUInt64 >>> ((30 : Int32) &&& 0x3f).toInt64.toUInt64).toInt64)) * (-4658895280553007687 : Int64))
def own_t3_39 (w : Int64) : Int64 := (((own_t3_28 w) ^^^ (((own_t3_28 w).toUInt64 >>> ((27 : Int32) &&& 0x3f).toInt64.toUInt64).toInt64)) * (-7723592293110705685 : Int64))
theorem d3_0 : decode prog_35_method_2_code 0 = .ok (.aload_n 0, 1) := by decide +kernel
theorem d3_1 : decode prog_35_method_2_code 1 = .ok (.dup, 1) := by decide +kernel
theorem d3_2 : decode prog_35_method_2_code 2 = .ok (.getfield 7, 3) := by decide +kernel
theorem d3_5 : decode prog_35_method_2_code 5 = .ok (.ldc2_w 13, 3) := by decide +kernel
theorem d3_8 : decode prog_35_method_2_code 8 = .ok (.ladd, 1) := by decide +kernel
theorem d3_9 : decode prog_35_method_2_code 9 = .ok (.putfield 7, 3) := by decide +kernel
theorem d3_12 : decode prog_35_method_2_code 12 = .ok (.aload_n 0, 1) := by decide +kernel
theorem d3_13 : decode prog_35_method_2_code 13 = .ok (.getfield 7, 3) := by decide +kernel
theorem d3_16 : decode prog_35_method_2_code 16 = .ok (.aload_n 0, 1) := by decide +kernel
theorem d3_17 : decode prog_35_method_2_code 17 = .ok (.getfield 7, 3) := by decide +kernel
theorem d3_20 : decode prog_35_method_2_code 20 = .ok (.bipush 30, 2) := by decide +kernel
theorem d3_22 : decode prog_35_method_2_code 22 = .ok (.lushr, 1) := by decide +kernel
theorem d3_23 : decode prog_35_method_2_code 23 = .ok (.lxor, 1) := by decide +kernel
theorem d3_24 : decode prog_35_method_2_code 24 = .ok (.ldc2_w 15, 3) := by decide +kernel
theorem d3_27 : decode prog_35_method_2_code 27 = .ok (.lmul, 1) := by decide +kernel
theorem d3_28 : decode prog_35_method_2_code 28 = .ok (.lstore_n 1, 1) := by decide +kernel
theorem d3_29 : decode prog_35_method_2_code 29 = .ok (.lload_n 1, 1) := by decide +kernel
theorem d3_30 : decode prog_35_method_2_code 30 = .ok (.lload_n 1, 1) := by decide +kernel
theorem d3_31 : decode prog_35_method_2_code 31 = .ok (.bipush 27, 2) := by decide +kernel
theorem d3_33 : decode prog_35_method_2_code 33 = .ok (.lushr, 1) := by decide +kernel
theorem d3_34 : decode prog_35_method_2_code 34 = .ok (.lxor, 1) := by decide +kernel
theorem d3_35 : decode prog_35_method_2_code 35 = .ok (.ldc2_w 17, 3) := by decide +kernel
theorem d3_38 : decode prog_35_method_2_code 38 = .ok (.lmul, 1) := by decide +kernel
theorem d3_39 : decode prog_35_method_2_code 39 = .ok (.lstore_n 1, 1) := by decide +kernel
theorem d3_40 : decode prog_35_method_2_code 40 = .ok (.lload_n 1, 1) := by decide +kernel
theorem d3_41 : decode prog_35_method_2_code 41 = .ok (.lload_n 1, 1) := by decide +kernel
theorem d3_42 : decode prog_35_method_2_code 42 = .ok (.bipush 31, 2) := by decide +kernel
theorem d3_44 : decode prog_35_method_2_code 44 = .ok (.lushr, 1) := by decide +kernel
theorem d3_45 : decode prog_35_method_2_code 45 = .ok (.lxor, 1) := by decide +kernel
theorem d3_46 : decode prog_35_method_2_code 46 = .ok (.lreturn, 1) := by decide +kernel
/-- what the body returns -/
def own_F3 (w : Int64) : Int64 :=
  ((own_t3_39 w) ^^^ (((own_t3_39 w).toUInt64 >>> ((31 : Int32) &&& 0x3f).toInt64.toUInt64).toInt64))
theorem own_ef3 (m : MethodId) (r0 : Addr) : entryFrame m #[(.ref r0)] 3 = mkF m 0 #[.val (.ref r0), .unset, .unset] [] := by first | (simp [entryFrame, mkF, argsToLocals, Value.category]; done) | rfl
set_option maxRecDepth 65536 in
set_option maxHeartbeats 40000000 in
theorem own_c3 (l : Launch) (Z : State) (a0 : Array Value) (hw : ∀ d ∈ tables_1, d.before a0 Z = true) (h0 : Heap) (n0 : Nat) (Z0 : n0 ≤ h0.size) (r0 : Addr) (w : Int64) (E0 : Exa Z h0 r0 "com/example/gauge_links/gaugelinks/rank/SplitMix64") (F0 : Fld Z h0 r0 "com/example/gauge_links/gaugelinks/rank/SplitMix64" "state" "J" (.long w)) (g0 : n0 ≤ r0) :
    own_M l (⟨"com/example/gauge_links/gaugelinks/rank/SplitMix64", "next", "()J"⟩ : MethodName) prog_35_method_2_code 3 (some .long) [] ({ frames := 0, cells := 0, slots := 0, locals := 0 } : Room) Z #[(.ref r0)] h0 (own_Q n0 h0 [r0] (fun v h => v = some (.long (own_F3 w)) ∧ Exa Z h r0 "com/example/gauge_links/gaugelinks/rank/SplitMix64" ∧ Fld Z h r0 "com/example/gauge_links/gaugelinks/rank/SplitMix64" "state" "J" (.long (w + (-7046029254386353131 : Int64))))) := by
  refine own_body (plainFor_of_name own_pn0) ?_
  intro p e s m below meth c T0 X0 hx hby hml hown hnm hret hlk hZ
  refine own_cast (own_ef3 m r0) ?_
  refine own_st (f' := (mkF m 1 #[.val (.ref r0), .unset, .unset] [(.ref r0)])) (fun t k => XS.aloadN X0.her hx rfl (hb hby d3_0) rfl rfl k) ?_
  refine own_st (f' := (mkF m 2 #[.val (.ref r0), .unset, .unset] [(.ref r0), (.ref r0)])) (fun t k => XS.dup X0.her hx rfl (hb hby d3_1) rfl rfl k) ?_
  refine own_getF X0 hx hZ hown (own_w9 hw) F0 (hb hby d3_2) ?_
  intro T3 X3
  refine own_ldcL X3 hx hZ hown (own_w16 hw) (hb hby d3_5) ?_
  refine own_st (f' := (mkF m 9 #[.val (.ref r0), .unset, .unset] [(.long (w + (-7046029254386353131 : Int64))), (.ref r0)])) (fun t k => XS.ladd X3.her hx rfl (hb hby d3_8) rfl k) ?_
  refine own_putF X3 hx hZ hown (own_w9 hw) F0 E0 (Or.inl (own_w10 hw)) (own_w1 hw) (ty := .long) (by decide) rfl rfl (hb hby d3_9) g0 (Or.inl (List.mem_cons_self)) ?_
  intro T4 h4 X4 W4 F4 A4
  have Zn4 : n0 ≤ h4.size := by rw [W4.size]; exact Z0
  refine own_st (f' := (mkF m 13 #[.val (.ref r0), .unset, .unset] [(.ref r0)])) (fun t k => XS.aloadN X4.her hx rfl (hb hby d3_12) rfl rfl k) ?_
  refine own_getF X4 hx hZ hown (own_w9 hw) F4 (hb hby d3_13) ?_
  intro T5 X5
  refine own_st (f' := (mkF m 17 #[.val (.ref r0), .unset, .unset] [(.ref r0), (.long (w + (-7046029254386353131 : Int64)))])) (fun t k => XS.aloadN X5.her hx rfl (hb hby d3_16) rfl rfl k) ?_
  refine own_getF X5 hx hZ hown (own_w9 hw) F4 (hb hby d3_17) ?_
  intro T6 X6
  refine own_st (f' := (mkF m 22 #[.val (.ref r0), .unset, .unset] [(.int (30 : Int32)), (.long (w + (-7046029254386353131 : Int64))), (.long (w + (-7046029254386353131 : Int64)))])) (fun t k => XS.bipush X6.her hx rfl (hb hby d3_20) k) ?_
  refine own_st (f' := (mkF m 23 #[.val (.ref r0), .unset, .unset] [(.long (((w + (-7046029254386353131 : Int64)).toUInt64 >>> ((30 : Int32) &&& 0x3f).toInt64.toUInt64).toInt64)), (.long (w + (-7046029254386353131 : Int64)))])) (fun t k => XS.lushr X6.her hx rfl (hb hby d3_22) rfl k) ?_
  refine own_st (f' := (mkF m 24 #[.val (.ref r0), .unset, .unset] [(.long ((w + (-7046029254386353131 : Int64)) ^^^ (((w + (-7046029254386353131 : Int64)).toUInt64 >>> ((30 : Int32) &&& 0x3f).toInt64.toUInt64).toInt64)))])) (fun t k => XS.lxor X6.her hx rfl (hb hby d3_23) rfl k) ?_
  refine own_ldcL X6 hx hZ hown (own_w17 hw) (hb hby d3_24) ?_
  refine own_st (f' := (mkF m 28 #[.val (.ref r0), .unset, .unset] [(.long (((w + (-7046029254386353131 : Int64)) ^^^ (((w + (-7046029254386353131 : Int64)).toUInt64 >>> ((30 : Int32) &&& 0x3f).toInt64.toUInt64).toInt64)) * (-4658895280553007687 : Int64)))])) (fun t k => XS.lmul X6.her hx rfl (hb hby d3_27) rfl k) ?_
  refine own_st (f' := (mkF m 29 #[.val (.ref r0), .val (.long (own_t3_28 w)), .second] [])) (fun t k => XS.lstoreN X6.her hx rfl (hb hby d3_28) rfl (l' := #[.val (.ref r0), .val (.long (own_t3_28 w)), .second]) rfl k) ?_
  refine own_st (f' := (mkF m 30 #[.val (.ref r0), .val (.long (own_t3_28 w)), .second] [(.long (own_t3_28 w))])) (fun t k => XS.lloadN X6.her hx rfl (hb hby d3_29) rfl k) ?_
  refine own_st (f' := (mkF m 31 #[.val (.ref r0), .val (.long (own_t3_28 w)), .second] [(.long (own_t3_28 w)), (.long (own_t3_28 w))])) (fun t k => XS.lloadN X6.her hx rfl (hb hby d3_30) rfl k) ?_
  refine own_st (f' := (mkF m 33 #[.val (.ref r0), .val (.long (own_t3_28 w)), .second] [(.int (27 : Int32)), (.long (own_t3_28 w)), (.long (own_t3_28 w))])) (fun t k => XS.bipush X6.her hx rfl (hb hby d3_31) k) ?_
  refine own_st (f' := (mkF m 34 #[.val (.ref r0), .val (.long (own_t3_28 w)), .second] [(.long (((own_t3_28 w).toUInt64 >>> ((27 : Int32) &&& 0x3f).toInt64.toUInt64).toInt64)), (.long (own_t3_28 w))])) (fun t k => XS.lushr X6.her hx rfl (hb hby d3_33) rfl k) ?_
  refine own_st (f' := (mkF m 35 #[.val (.ref r0), .val (.long (own_t3_28 w)), .second] [(.long ((own_t3_28 w) ^^^ (((own_t3_28 w).toUInt64 >>> ((27 : Int32) &&& 0x3f).toInt64.toUInt64).toInt64)))])) (fun t k => XS.lxor X6.her hx rfl (hb hby d3_34) rfl k) ?_
  refine own_ldcL X6 hx hZ hown (own_w18 hw) (hb hby d3_35) ?_
  refine own_st (f' := (mkF m 39 #[.val (.ref r0), .val (.long (own_t3_28 w)), .second] [(.long (((own_t3_28 w) ^^^ (((own_t3_28 w).toUInt64 >>> ((27 : Int32) &&& 0x3f).toInt64.toUInt64).toInt64)) * (-7723592293110705685 : Int64)))])) (fun t k => XS.lmul X6.her hx rfl (hb hby d3_38) rfl k) ?_
  refine own_st (f' := (mkF m 40 #[.val (.ref r0), .val (.long (own_t3_39 w)), .second] [])) (fun t k => XS.lstoreN X6.her hx rfl (hb hby d3_39) rfl (l' := #[.val (.ref r0), .val (.long (own_t3_39 w)), .second]) rfl k) ?_
  refine own_st (f' := (mkF m 41 #[.val (.ref r0), .val (.long (own_t3_39 w)), .second] [(.long (own_t3_39 w))])) (fun t k => XS.lloadN X6.her hx rfl (hb hby d3_40) rfl k) ?_
  refine own_st (f' := (mkF m 42 #[.val (.ref r0), .val (.long (own_t3_39 w)), .second] [(.long (own_t3_39 w)), (.long (own_t3_39 w))])) (fun t k => XS.lloadN X6.her hx rfl (hb hby d3_41) rfl k) ?_
  refine own_st (f' := (mkF m 44 #[.val (.ref r0), .val (.long (own_t3_39 w)), .second] [(.int (31 : Int32)), (.long (own_t3_39 w)), (.long (own_t3_39 w))])) (fun t k => XS.bipush X6.her hx rfl (hb hby d3_42) k) ?_
  refine own_st (f' := (mkF m 45 #[.val (.ref r0), .val (.long (own_t3_39 w)), .second] [(.long (((own_t3_39 w).toUInt64 >>> ((31 : Int32) &&& 0x3f).toInt64.toUInt64).toInt64)), (.long (own_t3_39 w))])) (fun t k => XS.lushr X6.her hx rfl (hb hby d3_44) rfl k) ?_
  refine own_st (f' := (mkF m 46 #[.val (.ref r0), .val (.long (own_t3_39 w)), .second] [(.long ((own_t3_39 w) ^^^ (((own_t3_39 w).toUInt64 >>> ((31 : Int32) &&& 0x3f).toInt64.toUInt64).toInt64)))])) (fun t k => XS.lxor X6.her hx rfl (hb hby d3_45) rfl k) ?_
  refine own_retL X6 hx hret hlk (hb hby d3_46) (by first | decide | omega) (by first | decide | omega) ?_
  exact ⟨rfl, A4, F4⟩
def own_t4_11 (q0 : Int64) : Int64 := (q0 * ((2 : Int64) - (q0 * q0)))
def own_t4_21 (q0 : Int64) : Int64 := ((own_t4_11 q0) * ((2 : Int64) - (q0 * (own_t4_11 q0))))
def own_t4_31 (q0 : Int64) : Int64 := ((own_t4_21 q0) * ((2 : Int64) - (q0 * (own_t4_21 q0))))
def own_t4_41 (q0 : Int64) : Int64 := ((own_t4_31 q0) * ((2 : Int64) - (q0 * (own_t4_31 q0))))
def own_t4_51 (q0 : Int64) : Int64 := ((own_t4_41 q0) * ((2 : Int64) - (q0 * (own_t4_41 q0))))
theorem d4_0 : decode method_2_code 0 = .ok (.lload_n 0, 1) := by decide +kernel
theorem d4_1 : decode method_2_code 1 = .ok (.lstore_n 2, 1) := by decide +kernel
theorem d4_2 : decode method_2_code 2 = .ok (.lload_n 2, 1) := by decide +kernel
theorem d4_3 : decode method_2_code 3 = .ok (.ldc2_w 7, 3) := by decide +kernel
theorem d4_6 : decode method_2_code 6 = .ok (.lload_n 0, 1) := by decide +kernel
theorem d4_7 : decode method_2_code 7 = .ok (.lload_n 2, 1) := by decide +kernel
theorem d4_8 : decode method_2_code 8 = .ok (.lmul, 1) := by decide +kernel
theorem d4_9 : decode method_2_code 9 = .ok (.lsub, 1) := by decide +kernel
theorem d4_10 : decode method_2_code 10 = .ok (.lmul, 1) := by decide +kernel
theorem d4_11 : decode method_2_code 11 = .ok (.lstore_n 2, 1) := by decide +kernel
theorem d4_12 : decode method_2_code 12 = .ok (.lload_n 2, 1) := by decide +kernel
theorem d4_13 : decode method_2_code 13 = .ok (.ldc2_w 7, 3) := by decide +kernel
theorem d4_16 : decode method_2_code 16 = .ok (.lload_n 0, 1) := by decide +kernel
theorem d4_17 : decode method_2_code 17 = .ok (.lload_n 2, 1) := by decide +kernel
theorem d4_18 : decode method_2_code 18 = .ok (.lmul, 1) := by decide +kernel
theorem d4_19 : decode method_2_code 19 = .ok (.lsub, 1) := by decide +kernel
theorem d4_20 : decode method_2_code 20 = .ok (.lmul, 1) := by decide +kernel
theorem d4_21 : decode method_2_code 21 = .ok (.lstore_n 2, 1) := by decide +kernel
theorem d4_22 : decode method_2_code 22 = .ok (.lload_n 2, 1) := by decide +kernel
theorem d4_23 : decode method_2_code 23 = .ok (.ldc2_w 7, 3) := by decide +kernel
theorem d4_26 : decode method_2_code 26 = .ok (.lload_n 0, 1) := by decide +kernel
theorem d4_27 : decode method_2_code 27 = .ok (.lload_n 2, 1) := by decide +kernel
theorem d4_28 : decode method_2_code 28 = .ok (.lmul, 1) := by decide +kernel
theorem d4_29 : decode method_2_code 29 = .ok (.lsub, 1) := by decide +kernel
theorem d4_30 : decode method_2_code 30 = .ok (.lmul, 1) := by decide +kernel
theorem d4_31 : decode method_2_code 31 = .ok (.lstore_n 2, 1) := by decide +kernel
theorem d4_32 : decode method_2_code 32 = .ok (.lload_n 2, 1) := by decide +kernel
theorem d4_33 : decode method_2_code 33 = .ok (.ldc2_w 7, 3) := by decide +kernel
theorem d4_36 : decode method_2_code 36 = .ok (.lload_n 0, 1) := by decide +kernel
theorem d4_37 : decode method_2_code 37 = .ok (.lload_n 2, 1) := by decide +kernel
theorem d4_38 : decode method_2_code 38 = .ok (.lmul, 1) := by decide +kernel
theorem d4_39 : decode method_2_code 39 = .ok (.lsub, 1) := by decide +kernel
theorem d4_40 : decode method_2_code 40 = .ok (.lmul, 1) := by decide +kernel
theorem d4_41 : decode method_2_code 41 = .ok (.lstore_n 2, 1) := by decide +kernel
theorem d4_42 : decode method_2_code 42 = .ok (.lload_n 2, 1) := by decide +kernel
theorem d4_43 : decode method_2_code 43 = .ok (.ldc2_w 7, 3) := by decide +kernel
theorem d4_46 : decode method_2_code 46 = .ok (.lload_n 0, 1) := by decide +kernel
theorem d4_47 : decode method_2_code 47 = .ok (.lload_n 2, 1) := by decide +kernel
theorem d4_48 : decode method_2_code 48 = .ok (.lmul, 1) := by decide +kernel
theorem d4_49 : decode method_2_code 49 = .ok (.lsub, 1) := by decide +kernel
theorem d4_50 : decode method_2_code 50 = .ok (.lmul, 1) := by decide +kernel
theorem d4_51 : decode method_2_code 51 = .ok (.lstore_n 2, 1) := by decide +kernel
theorem d4_52 : decode method_2_code 52 = .ok (.lload_n 2, 1) := by decide +kernel
theorem d4_53 : decode method_2_code 53 = .ok (.lreturn, 1) := by decide +kernel
/-- what the body returns -/
def own_F4 (q0 : Int64) : Int64 :=
  (own_t4_51 q0)
theorem own_ef4 (m : MethodId) (q0 : Int64) : entryFrame m #[(.long q0)] 4 = mkF m 0 #[.val (.long q0), .second, .unset, .unset] [] := by first | (simp [entryFrame, mkF, argsToLocals, Value.category]; done) | rfl
set_option maxRecDepth 65536 in
set_option maxHeartbeats 40000000 in
theorem own_c4 (l : Launch) (Z : State) (a0 : Array Value) (hw : ∀ d ∈ tables_1, d.before a0 Z = true) (h0 : Heap) (n0 : Nat) (Z0 : n0 ≤ h0.size) (q0 : Int64) :
    own_M l (⟨"com/example/gauge_links/gaugelinks/rank/SplitMix64NextPinLaw", "inverse", "(J)J"⟩ : MethodName) method_2_code 4 (some .long) [] ({ frames := 0, cells := 0, slots := 0, locals := 0 } : Room) Z #[(.long q0)] h0 (own_Q n0 h0 [] (own_P (.long (own_F4 q0)) h0)) := by
  refine own_body (plainFor_of_name own_pn1) ?_
  intro p e s m below meth c T0 X0 hx hby hml hown hnm hret hlk hZ
  refine own_cast (own_ef4 m q0) ?_
  refine own_st (f' := (mkF m 1 #[.val (.long q0), .second, .unset, .unset] [(.long q0)])) (fun t k => XS.lloadN X0.her hx rfl (hb hby d4_0) rfl k) ?_
  refine own_st (f' := (mkF m 2 #[.val (.long q0), .second, .val (.long q0), .second] [])) (fun t k => XS.lstoreN X0.her hx rfl (hb hby d4_1) rfl (l' := #[.val (.long q0), .second, .val (.long q0), .second]) rfl k) ?_
  refine own_st (f' := (mkF m 3 #[.val (.long q0), .second, .val (.long q0), .second] [(.long q0)])) (fun t k => XS.lloadN X0.her hx rfl (hb hby d4_2) rfl k) ?_
  refine own_ldcL X0 hx hZ hown (own_w24 hw) (hb hby d4_3) ?_
  refine own_st (f' := (mkF m 7 #[.val (.long q0), .second, .val (.long q0), .second] [(.long q0), (.long (2 : Int64)), (.long q0)])) (fun t k => XS.lloadN X0.her hx rfl (hb hby d4_6) rfl k) ?_
  refine own_st (f' := (mkF m 8 #[.val (.long q0), .second, .val (.long q0), .second] [(.long q0), (.long q0), (.long (2 : Int64)), (.long q0)])) (fun t k => XS.lloadN X0.her hx rfl (hb hby d4_7) rfl k) ?_
  refine own_st (f' := (mkF m 9 #[.val (.long q0), .second, .val (.long q0), .second] [(.long (q0 * q0)), (.long (2 : Int64)), (.long q0)])) (fun t k => XS.lmul X0.her hx rfl (hb hby d4_8) rfl k) ?_
  refine own_st (f' := (mkF m 10 #[.val (.long q0), .second, .val (.long q0), .second] [(.long ((2 : Int64) - (q0 * q0))), (.long q0)])) (fun t k => XS.lsub X0.her hx rfl (hb hby d4_9) rfl k) ?_
  refine own_st (f' := (mkF m 11 #[.val (.long q0), .second, .val (.long q0), .second] [(.long (q0 * ((2 : Int64) - (q0 * q0))))])) (fun t k => XS.lmul X0.her hx rfl (hb hby d4_10) rfl k) ?_
  refine own_st (f' := (mkF m 12 #[.val (.long q0), .second, .val (.long (own_t4_11 q0)), .second] [])) (fun t k => XS.lstoreN X0.her hx rfl (hb hby d4_11) rfl (l' := #[.val (.long q0), .second, .val (.long (own_t4_11 q0)), .second]) rfl k) ?_
  refine own_st (f' := (mkF m 13 #[.val (.long q0), .second, .val (.long (own_t4_11 q0)), .second] [(.long (own_t4_11 q0))])) (fun t k => XS.lloadN X0.her hx rfl (hb hby d4_12) rfl k) ?_
  refine own_ldcL X0 hx hZ hown (own_w24 hw) (hb hby d4_13) ?_
  refine own_st (f' := (mkF m 17 #[.val (.long q0), .second, .val (.long (own_t4_11 q0)), .second] [(.long q0), (.long (2 : Int64)), (.long (own_t4_11 q0))])) (fun t k => XS.lloadN X0.her hx rfl (hb hby d4_16) rfl k) ?_
  refine own_st (f' := (mkF m 18 #[.val (.long q0), .second, .val (.long (own_t4_11 q0)), .second] [(.long (own_t4_11 q0)), (.long q0), (.long (2 : Int64)), (.long (own_t4_11 q0))])) (fun t k => XS.lloadN X0.her hx rfl (hb hby d4_17) rfl k) ?_
  refine own_st (f' := (mkF m 19 #[.val (.long q0), .second, .val (.long (own_t4_11 q0)), .second] [(.long (q0 * (own_t4_11 q0))), (.long (2 : Int64)), (.long (own_t4_11 q0))])) (fun t k => XS.lmul X0.her hx rfl (hb hby d4_18) rfl k) ?_
  refine own_st (f' := (mkF m 20 #[.val (.long q0), .second, .val (.long (own_t4_11 q0)), .second] [(.long ((2 : Int64) - (q0 * (own_t4_11 q0)))), (.long (own_t4_11 q0))])) (fun t k => XS.lsub X0.her hx rfl (hb hby d4_19) rfl k) ?_
  refine own_st (f' := (mkF m 21 #[.val (.long q0), .second, .val (.long (own_t4_11 q0)), .second] [(.long ((own_t4_11 q0) * ((2 : Int64) - (q0 * (own_t4_11 q0)))))])) (fun t k => XS.lmul X0.her hx rfl (hb hby d4_20) rfl k) ?_
  refine own_st (f' := (mkF m 22 #[.val (.long q0), .second, .val (.long (own_t4_21 q0)), .second] [])) (fun t k => XS.lstoreN X0.her hx rfl (hb hby d4_21) rfl (l' := #[.val (.long q0), .second, .val (.long (own_t4_21 q0)), .second]) rfl k) ?_
  refine own_st (f' := (mkF m 23 #[.val (.long q0), .second, .val (.long (own_t4_21 q0)), .second] [(.long (own_t4_21 q0))])) (fun t k => XS.lloadN X0.her hx rfl (hb hby d4_22) rfl k) ?_
  refine own_ldcL X0 hx hZ hown (own_w24 hw) (hb hby d4_23) ?_
  refine own_st (f' := (mkF m 27 #[.val (.long q0), .second, .val (.long (own_t4_21 q0)), .second] [(.long q0), (.long (2 : Int64)), (.long (own_t4_21 q0))])) (fun t k => XS.lloadN X0.her hx rfl (hb hby d4_26) rfl k) ?_
  refine own_st (f' := (mkF m 28 #[.val (.long q0), .second, .val (.long (own_t4_21 q0)), .second] [(.long (own_t4_21 q0)), (.long q0), (.long (2 : Int64)), (.long (own_t4_21 q0))])) (fun t k => XS.lloadN X0.her hx rfl (hb hby d4_27) rfl k) ?_
  refine own_st (f' := (mkF m 29 #[.val (.long q0), .second, .val (.long (own_t4_21 q0)), .second] [(.long (q0 * (own_t4_21 q0))), (.long (2 : Int64)), (.long (own_t4_21 q0))])) (fun t k => XS.lmul X0.her hx rfl (hb hby d4_28) rfl k) ?_
  refine own_st (f' := (mkF m 30 #[.val (.long q0), .second, .val (.long (own_t4_21 q0)), .second] [(.long ((2 : Int64) - (q0 * (own_t4_21 q0)))), (.long (own_t4_21 q0))])) (fun t k => XS.lsub X0.her hx rfl (hb hby d4_29) rfl k) ?_
  refine own_st (f' := (mkF m 31 #[.val (.long q0), .second, .val (.long (own_t4_21 q0)), .second] [(.long ((own_t4_21 q0) * ((2 : Int64) - (q0 * (own_t4_21 q0)))))])) (fun t k => XS.lmul X0.her hx rfl (hb hby d4_30) rfl k) ?_
  refine own_st (f' := (mkF m 32 #[.val (.long q0), .second, .val (.long (own_t4_31 q0)), .second] [])) (fun t k => XS.lstoreN X0.her hx rfl (hb hby d4_31) rfl (l' := #[.val (.long q0), .second, .val (.long (own_t4_31 q0)), .second]) rfl k) ?_
  refine own_st (f' := (mkF m 33 #[.val (.long q0), .second, .val (.long (own_t4_31 q0)), .second] [(.long (own_t4_31 q0))])) (fun t k => XS.lloadN X0.her hx rfl (hb hby d4_32) rfl k) ?_
  refine own_ldcL X0 hx hZ hown (own_w24 hw) (hb hby d4_33) ?_
  refine own_st (f' := (mkF m 37 #[.val (.long q0), .second, .val (.long (own_t4_31 q0)), .second] [(.long q0), (.long (2 : Int64)), (.long (own_t4_31 q0))])) (fun t k => XS.lloadN X0.her hx rfl (hb hby d4_36) rfl k) ?_
  refine own_st (f' := (mkF m 38 #[.val (.long q0), .second, .val (.long (own_t4_31 q0)), .second] [(.long (own_t4_31 q0)), (.long q0), (.long (2 : Int64)), (.long (own_t4_31 q0))])) (fun t k => XS.lloadN X0.her hx rfl (hb hby d4_37) rfl k) ?_
  refine own_st (f' := (mkF m 39 #[.val (.long q0), .second, .val (.long (own_t4_31 q0)), .second] [(.long (q0 * (own_t4_31 q0))), (.long (2 : Int64)), (.long (own_t4_31 q0))])) (fun t k => XS.lmul X0.her hx rfl (hb hby d4_38) rfl k) ?_
  refine own_st (f' := (mkF m 40 #[.val (.long q0), .second, .val (.long (own_t4_31 q0)), .second] [(.long ((2 : Int64) - (q0 * (own_t4_31 q0)))), (.long (own_t4_31 q0))])) (fun t k => XS.lsub X0.her hx rfl (hb hby d4_39) rfl k) ?_
  refine own_st (f' := (mkF m 41 #[.val (.long q0), .second, .val (.long (own_t4_31 q0)), .second] [(.long ((own_t4_31 q0) * ((2 : Int64) - (q0 * (own_t4_31 q0)))))])) (fun t k => XS.lmul X0.her hx rfl (hb hby d4_40) rfl k) ?_
  refine own_st (f' := (mkF m 42 #[.val (.long q0), .second, .val (.long (own_t4_41 q0)), .second] [])) (fun t k => XS.lstoreN X0.her hx rfl (hb hby d4_41) rfl (l' := #[.val (.long q0), .second, .val (.long (own_t4_41 q0)), .second]) rfl k) ?_
  refine own_st (f' := (mkF m 43 #[.val (.long q0), .second, .val (.long (own_t4_41 q0)), .second] [(.long (own_t4_41 q0))])) (fun t k => XS.lloadN X0.her hx rfl (hb hby d4_42) rfl k) ?_
  refine own_ldcL X0 hx hZ hown (own_w24 hw) (hb hby d4_43) ?_
  refine own_st (f' := (mkF m 47 #[.val (.long q0), .second, .val (.long (own_t4_41 q0)), .second] [(.long q0), (.long (2 : Int64)), (.long (own_t4_41 q0))])) (fun t k => XS.lloadN X0.her hx rfl (hb hby d4_46) rfl k) ?_
  refine own_st (f' := (mkF m 48 #[.val (.long q0), .second, .val (.long (own_t4_41 q0)), .second] [(.long (own_t4_41 q0)), (.long q0), (.long (2 : Int64)), (.long (own_t4_41 q0))])) (fun t k => XS.lloadN X0.her hx rfl (hb hby d4_47) rfl k) ?_
  refine own_st (f' := (mkF m 49 #[.val (.long q0), .second, .val (.long (own_t4_41 q0)), .second] [(.long (q0 * (own_t4_41 q0))), (.long (2 : Int64)), (.long (own_t4_41 q0))])) (fun t k => XS.lmul X0.her hx rfl (hb hby d4_48) rfl k) ?_
  refine own_st (f' := (mkF m 50 #[.val (.long q0), .second, .val (.long (own_t4_41 q0)), .second] [(.long ((2 : Int64) - (q0 * (own_t4_41 q0)))), (.long (own_t4_41 q0))])) (fun t k => XS.lsub X0.her hx rfl (hb hby d4_49) rfl k) ?_
  refine own_st (f' := (mkF m 51 #[.val (.long q0), .second, .val (.long (own_t4_41 q0)), .second] [(.long ((own_t4_41 q0) * ((2 : Int64) - (q0 * (own_t4_41 q0)))))])) (fun t k => XS.lmul X0.her hx rfl (hb hby d4_50) rfl k) ?_
  refine own_st (f' := (mkF m 52 #[.val (.long q0), .second, .val (.long (own_t4_51 q0)), .second] [])) (fun t k => XS.lstoreN X0.her hx rfl (hb hby d4_51) rfl (l' := #[.val (.long q0), .second, .val (.long (own_t4_51 q0)), .second]) rfl k) ?_
  refine own_st (f' := (mkF m 53 #[.val (.long q0), .second, .val (.long (own_t4_51 q0)), .second] [(.long (own_t4_51 q0))])) (fun t k => XS.lloadN X0.her hx rfl (hb hby d4_52) rfl k) ?_
  refine own_retL X0 hx hret hlk (hb hby d4_53) (by first | decide | omega) (by first | decide | omega) ?_
  exact ⟨congrArg (fun q => some (Value.long q)) (by unfold own_F4; first | done | exact rfl), rfl⟩
def own_t5_11 (q0 : Int64) : Int64 := ((q0 ^^^ ((q0.toUInt64 >>> ((31 : Int32) &&& 0x3f).toInt64.toUInt64).toInt64)) ^^^ ((q0.toUInt64 >>> ((62 : Int32) &&& 0x3f).toInt64.toUInt64).toInt64))
def own_t5_20 (q0 : Int64) : Int64 := ((own_t5_11 q0) * (own_F4 (-7723592293110705685 : Int64)))
def own_t5_32 (q0 : Int64) : Int64 := (((own_t5_20 q0) ^^^ (((own_t5_20 q0).toUInt64 >>> ((27 : Int32) &&& 0x3f).toInt64.toUInt64).toInt64)) ^^^ (((own_t5_20 q0).toUInt64 >>> ((54 : Int32) &&& 0x3f).toInt64.toUInt64).toInt64))
def own_t5_41 (q0 : Int64) : Int64 := ((own_t5_32 q0) * (own_F4 (-4658895280553007687 : Int64)))
def own_t5_53 (q0 : Int64) : Int64 := (((own_t5_41 q0) ^^^ (((own_t5_41 q0).toUInt64 >>> ((30 : Int32) &&& 0x3f).toInt64.toUInt64).toInt64)) ^^^ (((own_t5_41 q0).toUInt64 >>> ((60 : Int32) &&& 0x3f).toInt64.toUInt64).toInt64))
theorem d5_0 : decode method_3_code 0 = .ok (.lload_n 0, 1) := by decide +kernel
theorem d5_1 : decode method_3_code 1 = .ok (.lload_n 0, 1) := by decide +kernel
theorem d5_2 : decode method_3_code 2 = .ok (.bipush 31, 2) := by decide +kernel
theorem d5_4 : decode method_3_code 4 = .ok (.lushr, 1) := by decide +kernel
theorem d5_5 : decode method_3_code 5 = .ok (.lxor, 1) := by decide +kernel
theorem d5_6 : decode method_3_code 6 = .ok (.lload_n 0, 1) := by decide +kernel
theorem d5_7 : decode method_3_code 7 = .ok (.bipush 62, 2) := by decide +kernel
theorem d5_9 : decode method_3_code 9 = .ok (.lushr, 1) := by decide +kernel
theorem d5_10 : decode method_3_code 10 = .ok (.lxor, 1) := by decide +kernel
theorem d5_11 : decode method_3_code 11 = .ok (.lstore_n 2, 1) := by decide +kernel
theorem d5_12 : decode method_3_code 12 = .ok (.lload_n 2, 1) := by decide +kernel
theorem d5_13 : decode method_3_code 13 = .ok (.ldc2_w 11, 3) := by decide +kernel
theorem d5_16 : decode method_3_code 16 = .ok (.invokestatic 13, 3) := by decide +kernel
theorem d5_19 : decode method_3_code 19 = .ok (.lmul, 1) := by decide +kernel
theorem d5_20 : decode method_3_code 20 = .ok (.lstore_n 2, 1) := by decide +kernel
theorem d5_21 : decode method_3_code 21 = .ok (.lload_n 2, 1) := by decide +kernel
theorem d5_22 : decode method_3_code 22 = .ok (.lload_n 2, 1) := by decide +kernel
theorem d5_23 : decode method_3_code 23 = .ok (.bipush 27, 2) := by decide +kernel
theorem d5_25 : decode method_3_code 25 = .ok (.lushr, 1) := by decide +kernel
theorem d5_26 : decode method_3_code 26 = .ok (.lxor, 1) := by decide +kernel
theorem d5_27 : decode method_3_code 27 = .ok (.lload_n 2, 1) := by decide +kernel
theorem d5_28 : decode method_3_code 28 = .ok (.bipush 54, 2) := by decide +kernel
theorem d5_30 : decode method_3_code 30 = .ok (.lushr, 1) := by decide +kernel
theorem d5_31 : decode method_3_code 31 = .ok (.lxor, 1) := by decide +kernel
theorem d5_32 : decode method_3_code 32 = .ok (.lstore_n 2, 1) := by decide +kernel
theorem d5_33 : decode method_3_code 33 = .ok (.lload_n 2, 1) := by decide +kernel
theorem d5_34 : decode method_3_code 34 = .ok (.ldc2_w 17, 3) := by decide +kernel
theorem d5_37 : decode method_3_code 37 = .ok (.invokestatic 13, 3) := by decide +kernel
theorem d5_40 : decode method_3_code 40 = .ok (.lmul, 1) := by decide +kernel
theorem d5_41 : decode method_3_code 41 = .ok (.lstore_n 2, 1) := by decide +kernel
theorem d5_42 : decode method_3_code 42 = .ok (.lload_n 2, 1) := by decide +kernel
theorem d5_43 : decode method_3_code 43 = .ok (.lload_n 2, 1) := by decide +kernel
theorem d5_44 : decode method_3_code 44 = .ok (.bipush 30, 2) := by decide +kernel
theorem d5_46 : decode method_3_code 46 = .ok (.lushr, 1) := by decide +kernel
theorem d5_47 : decode method_3_code 47 = .ok (.lxor, 1) := by decide +kernel
theorem d5_48 : decode method_3_code 48 = .ok (.lload_n 2, 1) := by decide +kernel
theorem d5_49 : decode method_3_code 49 = .ok (.bipush 60, 2) := by decide +kernel
theorem d5_51 : decode method_3_code 51 = .ok (.lushr, 1) := by decide +kernel
theorem d5_52 : decode method_3_code 52 = .ok (.lxor, 1) := by decide +kernel
theorem d5_53 : decode method_3_code 53 = .ok (.lstore_n 2, 1) := by decide +kernel
theorem d5_54 : decode method_3_code 54 = .ok (.lload_n 2, 1) := by decide +kernel
theorem d5_55 : decode method_3_code 55 = .ok (.lreturn, 1) := by decide +kernel
/-- what the body returns -/
def own_F5 (q0 : Int64) : Int64 :=
  (own_t5_53 q0)
theorem own_ef5 (m : MethodId) (q0 : Int64) : entryFrame m #[(.long q0)] 4 = mkF m 0 #[.val (.long q0), .second, .unset, .unset] [] := by first | (simp [entryFrame, mkF, argsToLocals, Value.category]; done) | rfl
set_option maxRecDepth 65536 in
set_option maxHeartbeats 40000000 in
theorem own_c5 (l : Launch) (Z : State) (a0 : Array Value) (hw : ∀ d ∈ tables_1, d.before a0 Z = true) (h0 : Heap) (n0 : Nat) (Z0 : n0 ≤ h0.size) (q0 : Int64) :
    own_M l (⟨"com/example/gauge_links/gaugelinks/rank/SplitMix64NextPinLaw", "unmix", "(J)J"⟩ : MethodName) method_3_code 4 (some .long) [] ({ frames := 1, cells := 0, slots := 0, locals := 17 } : Room) Z #[(.long q0)] h0 (own_Q n0 h0 [] (own_P (.long (own_F5 q0)) h0)) := by
  refine own_body (plainFor_of_name own_pn1) ?_
  intro p e s m below meth c T0 X0 hx hby hml hown hnm hret hlk hZ
  refine own_cast (own_ef5 m q0) ?_
  refine own_st (f' := (mkF m 1 #[.val (.long q0), .second, .unset, .unset] [(.long q0)])) (fun t k => XS.lloadN X0.her hx rfl (hb hby d5_0) rfl k) ?_
  refine own_st (f' := (mkF m 2 #[.val (.long q0), .second, .unset, .unset] [(.long q0), (.long q0)])) (fun t k => XS.lloadN X0.her hx rfl (hb hby d5_1) rfl k) ?_
  refine own_st (f' := (mkF m 4 #[.val (.long q0), .second, .unset, .unset] [(.int (31 : Int32)), (.long q0), (.long q0)])) (fun t k => XS.bipush X0.her hx rfl (hb hby d5_2) k) ?_
  refine own_st (f' := (mkF m 5 #[.val (.long q0), .second, .unset, .unset] [(.long ((q0.toUInt64 >>> ((31 : Int32) &&& 0x3f).toInt64.toUInt64).toInt64)), (.long q0)])) (fun t k => XS.lushr X0.her hx rfl (hb hby d5_4) rfl k) ?_
  refine own_st (f' := (mkF m 6 #[.val (.long q0), .second, .unset, .unset] [(.long (q0 ^^^ ((q0.toUInt64 >>> ((31 : Int32) &&& 0x3f).toInt64.toUInt64).toInt64)))])) (fun t k => XS.lxor X0.her hx rfl (hb hby d5_5) rfl k) ?_
  refine own_st (f' := (mkF m 7 #[.val (.long q0), .second, .unset, .unset] [(.long q0), (.long (q0 ^^^ ((q0.toUInt64 >>> ((31 : Int32) &&& 0x3f).toInt64.toUInt64).toInt64)))])) (fun t k => XS.lloadN X0.her hx rfl (hb hby d5_6) rfl k) ?_
  refine own_st (f' := (mkF m 9 #[.val (.long q0), .second, .unset, .unset] [(.int (62 : Int32)), (.long q0), (.long (q0 ^^^ ((q0.toUInt64 >>> ((31 : Int32) &&& 0x3f).toInt64.toUInt64).toInt64)))])) (fun t k => XS.bipush X0.her hx rfl (hb hby d5_7) k) ?_
  refine own_st (f' := (mkF m 10 #[.val (.long q0), .second, .unset, .unset] [(.long ((q0.toUInt64 >>> ((62 : Int32) &&& 0x3f).toInt64.toUInt64).toInt64)), (.long (q0 ^^^ ((q0.toUInt64 >>> ((31 : Int32) &&& 0x3f).toInt64.toUInt64).toInt64)))])) (fun t k => XS.lushr X0.her hx rfl (hb hby d5_9) rfl k) ?_
  refine own_st (f' := (mkF m 11 #[.val (.long q0), .second, .unset, .unset] [(.long ((q0 ^^^ ((q0.toUInt64 >>> ((31 : Int32) &&& 0x3f).toInt64.toUInt64).toInt64)) ^^^ ((q0.toUInt64 >>> ((62 : Int32) &&& 0x3f).toInt64.toUInt64).toInt64)))])) (fun t k => XS.lxor X0.her hx rfl (hb hby d5_10) rfl k) ?_
  refine own_st (f' := (mkF m 12 #[.val (.long q0), .second, .val (.long (own_t5_11 q0)), .second] [])) (fun t k => XS.lstoreN X0.her hx rfl (hb hby d5_11) rfl (l' := #[.val (.long q0), .second, .val (.long (own_t5_11 q0)), .second]) rfl k) ?_
  refine own_st (f' := (mkF m 13 #[.val (.long q0), .second, .val (.long (own_t5_11 q0)), .second] [(.long (own_t5_11 q0))])) (fun t k => XS.lloadN X0.her hx rfl (hb hby d5_12) rfl k) ?_
  refine own_ldcL X0 hx hZ hown (own_w25 hw) (hb hby d5_13) ?_
  refine own_callSP (y := (⟨"com/example/gauge_links/gaugelinks/rank/SplitMix64NextPinLaw", "inverse", "(J)J"⟩ : MethodName)) (W := 2) [(.long (-7723592293110705685 : Int64))] X0 hx hZ hown (own_w20 hw) (own_w21 hw) (own_w22 hw) (own_w23 hw) (by decide) (own_c4 l Z a0 hw h0 n0 Z0 (-7723592293110705685 : Int64)) (by decide) (by decide) (by decide) (by decide) (by rw [hml]; rfl) own_pd2 rfl rfl (Nat.le_of_eq rfl) (hb hby d5_16) ?_
  intro T7 X7
  show own_G p e below _ T7 (mkF m 19 #[.val (.long q0), .second, .val (.long (own_t5_11 q0)), .second] [(.long (own_F4 (-7723592293110705685 : Int64))), (.long (own_t5_11 q0))])
  refine own_st (f' := (mkF m 20 #[.val (.long q0), .second, .val (.long (own_t5_11 q0)), .second] [(.long ((own_t5_11 q0) * (own_F4 (-7723592293110705685 : Int64))))])) (fun t k => XS.lmul X7.her hx rfl (hb hby d5_19) rfl k) ?_
  refine own_st (f' := (mkF m 21 #[.val (.long q0), .second, .val (.long (own_t5_20 q0)), .second] [])) (fun t k => XS.lstoreN X7.her hx rfl (hb hby d5_20) rfl (l' := #[.val (.long q0), .second, .val (.long (own_t5_20 q0)), .second]) rfl k) ?_
  refine own_st (f' := (mkF m 22 #[.val (.long q0), .second, .val (.long (own_t5_20 q0)), .second] [(.long (own_t5_20 q0))])) (fun t k => XS.lloadN X7.her hx rfl (hb hby d5_21) rfl k) ?_
  refine own_st (f' := (mkF m 23 #[.val (.long q0), .second, .val (.long (own_t5_20 q0)), .second] [(.long (own_t5_20 q0)), (.long (own_t5_20 q0))])) (fun t k => XS.lloadN X7.her hx rfl (hb hby d5_22) rfl k) ?_
  refine own_st (f' := (mkF m 25 #[.val (.long q0), .second, .val (.long (own_t5_20 q0)), .second] [(.int (27 : Int32)), (.long (own_t5_20 q0)), (.long (own_t5_20 q0))])) (fun t k => XS.bipush X7.her hx rfl (hb hby d5_23) k) ?_
  refine own_st (f' := (mkF m 26 #[.val (.long q0), .second, .val (.long (own_t5_20 q0)), .second] [(.long (((own_t5_20 q0).toUInt64 >>> ((27 : Int32) &&& 0x3f).toInt64.toUInt64).toInt64)), (.long (own_t5_20 q0))])) (fun t k => XS.lushr X7.her hx rfl (hb hby d5_25) rfl k) ?_
  refine own_st (f' := (mkF m 27 #[.val (.long q0), .second, .val (.long (own_t5_20 q0)), .second] [(.long ((own_t5_20 q0) ^^^ (((own_t5_20 q0).toUInt64 >>> ((27 : Int32) &&& 0x3f).toInt64.toUInt64).toInt64)))])) (fun t k => XS.lxor X7.her hx rfl (hb hby d5_26) rfl k) ?_
  refine own_st (f' := (mkF m 28 #[.val (.long q0), .second, .val (.long (own_t5_20 q0)), .second] [(.long (own_t5_20 q0)), (.long ((own_t5_20 q0) ^^^ (((own_t5_20 q0).toUInt64 >>> ((27 : Int32) &&& 0x3f).toInt64.toUInt64).toInt64)))])) (fun t k => XS.lloadN X7.her hx rfl (hb hby d5_27) rfl k) ?_
  refine own_st (f' := (mkF m 30 #[.val (.long q0), .second, .val (.long (own_t5_20 q0)), .second] [(.int (54 : Int32)), (.long (own_t5_20 q0)), (.long ((own_t5_20 q0) ^^^ (((own_t5_20 q0).toUInt64 >>> ((27 : Int32) &&& 0x3f).toInt64.toUInt64).toInt64)))])) (fun t k => XS.bipush X7.her hx rfl (hb hby d5_28) k) ?_
  refine own_st (f' := (mkF m 31 #[.val (.long q0), .second, .val (.long (own_t5_20 q0)), .second] [(.long (((own_t5_20 q0).toUInt64 >>> ((54 : Int32) &&& 0x3f).toInt64.toUInt64).toInt64)), (.long ((own_t5_20 q0) ^^^ (((own_t5_20 q0).toUInt64 >>> ((27 : Int32) &&& 0x3f).toInt64.toUInt64).toInt64)))])) (fun t k => XS.lushr X7.her hx rfl (hb hby d5_30) rfl k) ?_
  refine own_st (f' := (mkF m 32 #[.val (.long q0), .second, .val (.long (own_t5_20 q0)), .second] [(.long (((own_t5_20 q0) ^^^ (((own_t5_20 q0).toUInt64 >>> ((27 : Int32) &&& 0x3f).toInt64.toUInt64).toInt64)) ^^^ (((own_t5_20 q0).toUInt64 >>> ((54 : Int32) &&& 0x3f).toInt64.toUInt64).toInt64)))])) (fun t k => XS.lxor X7.her hx rfl (hb hby d5_31) rfl k) ?_
  refine own_st (f' := (mkF m 33 #[.val (.long q0), .second, .val (.long (own_t5_32 q0)), .second] [])) (fun t k => XS.lstoreN X7.her hx rfl (hb hby d5_32) rfl (l' := #[.val (.long q0), .second, .val (.long (own_t5_32 q0)), .second]) rfl k) ?_
  refine own_st (f' := (mkF m 34 #[.val (.long q0), .second, .val (.long (own_t5_32 q0)), .second] [(.long (own_t5_32 q0))])) (fun t k => XS.lloadN X7.her hx rfl (hb hby d5_33) rfl k) ?_
  refine own_ldcL X7 hx hZ hown (own_w19 hw) (hb hby d5_34) ?_
  refine own_callSP (y := (⟨"com/example/gauge_links/gaugelinks/rank/SplitMix64NextPinLaw", "inverse", "(J)J"⟩ : MethodName)) (W := 2) [(.long (-4658895280553007687 : Int64))] X7 hx hZ hown (own_w20 hw) (own_w21 hw) (own_w22 hw) (own_w23 hw) (by decide) (own_c4 l Z a0 hw h0 n0 Z0 (-4658895280553007687 : Int64)) (by decide) (by decide) (by decide) (by decide) (by rw [hml]; rfl) own_pd2 rfl rfl (Nat.le_of_eq rfl) (hb hby d5_37) ?_
  intro T8 X8
  show own_G p e below _ T8 (mkF m 40 #[.val (.long q0), .second, .val (.long (own_t5_32 q0)), .second] [(.long (own_F4 (-4658895280553007687 : Int64))), (.long (own_t5_32 q0))])
  refine own_st (f' := (mkF m 41 #[.val (.long q0), .second, .val (.long (own_t5_32 q0)), .second] [(.long ((own_t5_32 q0) * (own_F4 (-4658895280553007687 : Int64))))])) (fun t k => XS.lmul X8.her hx rfl (hb hby d5_40) rfl k) ?_
  refine own_st (f' := (mkF m 42 #[.val (.long q0), .second, .val (.long (own_t5_41 q0)), .second] [])) (fun t k => XS.lstoreN X8.her hx rfl (hb hby d5_41) rfl (l' := #[.val (.long q0), .second, .val (.long (own_t5_41 q0)), .second]) rfl k) ?_
  refine own_st (f' := (mkF m 43 #[.val (.long q0), .second, .val (.long (own_t5_41 q0)), .second] [(.long (own_t5_41 q0))])) (fun t k => XS.lloadN X8.her hx rfl (hb hby d5_42) rfl k) ?_
  refine own_st (f' := (mkF m 44 #[.val (.long q0), .second, .val (.long (own_t5_41 q0)), .second] [(.long (own_t5_41 q0)), (.long (own_t5_41 q0))])) (fun t k => XS.lloadN X8.her hx rfl (hb hby d5_43) rfl k) ?_
  refine own_st (f' := (mkF m 46 #[.val (.long q0), .second, .val (.long (own_t5_41 q0)), .second] [(.int (30 : Int32)), (.long (own_t5_41 q0)), (.long (own_t5_41 q0))])) (fun t k => XS.bipush X8.her hx rfl (hb hby d5_44) k) ?_
  refine own_st (f' := (mkF m 47 #[.val (.long q0), .second, .val (.long (own_t5_41 q0)), .second] [(.long (((own_t5_41 q0).toUInt64 >>> ((30 : Int32) &&& 0x3f).toInt64.toUInt64).toInt64)), (.long (own_t5_41 q0))])) (fun t k => XS.lushr X8.her hx rfl (hb hby d5_46) rfl k) ?_
  refine own_st (f' := (mkF m 48 #[.val (.long q0), .second, .val (.long (own_t5_41 q0)), .second] [(.long ((own_t5_41 q0) ^^^ (((own_t5_41 q0).toUInt64 >>> ((30 : Int32) &&& 0x3f).toInt64.toUInt64).toInt64)))])) (fun t k => XS.lxor X8.her hx rfl (hb hby d5_47) rfl k) ?_
  refine own_st (f' := (mkF m 49 #[.val (.long q0), .second, .val (.long (own_t5_41 q0)), .second] [(.long (own_t5_41 q0)), (.long ((own_t5_41 q0) ^^^ (((own_t5_41 q0).toUInt64 >>> ((30 : Int32) &&& 0x3f).toInt64.toUInt64).toInt64)))])) (fun t k => XS.lloadN X8.her hx rfl (hb hby d5_48) rfl k) ?_
  refine own_st (f' := (mkF m 51 #[.val (.long q0), .second, .val (.long (own_t5_41 q0)), .second] [(.int (60 : Int32)), (.long (own_t5_41 q0)), (.long ((own_t5_41 q0) ^^^ (((own_t5_41 q0).toUInt64 >>> ((30 : Int32) &&& 0x3f).toInt64.toUInt64).toInt64)))])) (fun t k => XS.bipush X8.her hx rfl (hb hby d5_49) k) ?_
  refine own_st (f' := (mkF m 52 #[.val (.long q0), .second, .val (.long (own_t5_41 q0)), .second] [(.long (((own_t5_41 q0).toUInt64 >>> ((60 : Int32) &&& 0x3f).toInt64.toUInt64).toInt64)), (.long ((own_t5_41 q0) ^^^ (((own_t5_41 q0).toUInt64 >>> ((30 : Int32) &&& 0x3f).toInt64.toUInt64).toInt64)))])) (fun t k => XS.lushr X8.her hx rfl (hb hby d5_51) rfl k) ?_
  refine own_st (f' := (mkF m 53 #[.val (.long q0), .second, .val (.long (own_t5_41 q0)), .second] [(.long (((own_t5_41 q0) ^^^ (((own_t5_41 q0).toUInt64 >>> ((30 : Int32) &&& 0x3f).toInt64.toUInt64).toInt64)) ^^^ (((own_t5_41 q0).toUInt64 >>> ((60 : Int32) &&& 0x3f).toInt64.toUInt64).toInt64)))])) (fun t k => XS.lxor X8.her hx rfl (hb hby d5_52) rfl k) ?_
  refine own_st (f' := (mkF m 54 #[.val (.long q0), .second, .val (.long (own_t5_53 q0)), .second] [])) (fun t k => XS.lstoreN X8.her hx rfl (hb hby d5_53) rfl (l' := #[.val (.long q0), .second, .val (.long (own_t5_53 q0)), .second]) rfl k) ?_
  refine own_st (f' := (mkF m 55 #[.val (.long q0), .second, .val (.long (own_t5_53 q0)), .second] [(.long (own_t5_53 q0))])) (fun t k => XS.lloadN X8.her hx rfl (hb hby d5_54) rfl k) ?_
  refine own_retL X8 hx hret hlk (hb hby d5_55) (by first | decide | omega) (by first | decide | omega) ?_
  exact ⟨congrArg (fun q => some (Value.long q)) (by unfold own_F5; first | done | exact rfl), rfl⟩
/-- the plain law: each step of the mix is undone -/
theorem own_sr (x : Int64) (u : UInt64) {k : Nat} (hk : u.toNat = k) (hlt : k < 64) : ((x.toUInt64 >>> u).toInt64).toBitVec = x.toBitVec >>> k := by
  simp only [UInt64.toBitVec_toInt64, UInt64.toBitVec_shiftRight, Int64.toBitVec_toUInt64]
  apply BitVec.eq_of_toNat_eq
  simp [BitVec.toNat_ushiftRight, hk, Nat.mod_eq_of_lt hlt]
theorem own_x31 (y : BitVec 64) : ((y ^^^ y >>> 31) ^^^ (y ^^^ y >>> 31) >>> 31) ^^^ (y ^^^ y >>> 31) >>> 62 = y := by
  apply BitVec.eq_of_getLsbD_eq
  intro i hi
  have e : y.getLsbD (31 + (62 + i)) = false := BitVec.getLsbD_of_ge _ _ (by omega)
  have e2 : 31 + (31 + i) = 62 + i := by omega
  simp only [BitVec.getLsbD_xor, BitVec.getLsbD_ushiftRight, e, e2]
  cases y.getLsbD i <;> cases y.getLsbD (31 + i) <;> cases y.getLsbD (62 + i) <;> rfl
theorem own_x27 (y : BitVec 64) : ((y ^^^ y >>> 27) ^^^ (y ^^^ y >>> 27) >>> 27) ^^^ (y ^^^ y >>> 27) >>> 54 = y := by
  apply BitVec.eq_of_getLsbD_eq
  intro i hi
  have e : y.getLsbD (27 + (54 + i)) = false := BitVec.getLsbD_of_ge _ _ (by omega)
  have e2 : 27 + (27 + i) = 54 + i := by omega
  simp only [BitVec.getLsbD_xor, BitVec.getLsbD_ushiftRight, e, e2]
  cases y.getLsbD i <;> cases y.getLsbD (27 + i) <;> cases y.getLsbD (54 + i) <;> rfl
theorem own_x30 (y : BitVec 64) : ((y ^^^ y >>> 30) ^^^ (y ^^^ y >>> 30) >>> 30) ^^^ (y ^^^ y >>> 30) >>> 60 = y := by
  apply BitVec.eq_of_getLsbD_eq
  intro i hi
  have e : y.getLsbD (30 + (60 + i)) = false := BitVec.getLsbD_of_ge _ _ (by omega)
  have e2 : 30 + (30 + i) = 60 + i := by omega
  simp only [BitVec.getLsbD_xor, BitVec.getLsbD_ushiftRight, e, e2]
  cases y.getLsbD i <;> cases y.getLsbD (30 + i) <;> cases y.getLsbD (60 + i) <;> rfl
theorem own_i1 : (-4658895280553007687 : Int64) * own_F4 (-4658895280553007687) = 1 := by decide +kernel
theorem own_i2 : (-7723592293110705685 : Int64) * own_F4 (-7723592293110705685) = 1 := by decide +kernel
theorem own_un (w : Int64) : own_F5 (own_F3 w) = w + (-7046029254386353131 : Int64) := by
  have s1 : own_t5_11 (own_F3 w) = own_t3_39 w := by
    apply Int64.toBitVec_inj.mp
    have e : (own_F3 w).toBitVec = (own_t3_39 w).toBitVec ^^^ (own_t3_39 w).toBitVec >>> 31 := by
      show ((own_t3_39 w) ^^^ _).toBitVec = _
      rw [Int64.toBitVec_xor, own_sr _ ((31 : Int32) &&& 0x3f).toInt64.toUInt64 (k := 31) (by decide) (by decide)]
    show (((own_F3 w) ^^^ _) ^^^ _).toBitVec = _
    rw [Int64.toBitVec_xor, Int64.toBitVec_xor, own_sr _ ((31 : Int32) &&& 0x3f).toInt64.toUInt64 (k := 31) (by decide) (by decide), own_sr _ ((62 : Int32) &&& 0x3f).toInt64.toUInt64 (k := 62) (by decide) (by decide), e]
    exact own_x31 _
  have s2 : own_t5_20 (own_F3 w) = (own_t3_28 w) ^^^ (((own_t3_28 w).toUInt64 >>> ((27 : Int32) &&& 0x3f).toInt64.toUInt64).toInt64) := by
    show own_t5_11 (own_F3 w) * own_F4 (-7723592293110705685) = _
    rw [s1]
    show (_ * (-7723592293110705685 : Int64)) * own_F4 (-7723592293110705685) = _
    rw [Int64.mul_assoc, own_i2, Int64.mul_one]
  have s3 : own_t5_32 (own_F3 w) = own_t3_28 w := by
    apply Int64.toBitVec_inj.mp
    have e : (own_t5_20 (own_F3 w)).toBitVec = (own_t3_28 w).toBitVec ^^^ (own_t3_28 w).toBitVec >>> 27 := by
      rw [s2, Int64.toBitVec_xor, own_sr _ ((27 : Int32) &&& 0x3f).toInt64.toUInt64 (k := 27) (by decide) (by decide)]
    show (((own_t5_20 (own_F3 w)) ^^^ _) ^^^ _).toBitVec = _
    rw [Int64.toBitVec_xor, Int64.toBitVec_xor, own_sr _ ((27 : Int32) &&& 0x3f).toInt64.toUInt64 (k := 27) (by decide) (by decide), own_sr _ ((54 : Int32) &&& 0x3f).toInt64.toUInt64 (k := 54) (by decide) (by decide), e]
    exact own_x27 _
  have s4 : own_t5_41 (own_F3 w) = (w + (-7046029254386353131 : Int64)) ^^^ (((w + (-7046029254386353131 : Int64)).toUInt64 >>> ((30 : Int32) &&& 0x3f).toInt64.toUInt64).toInt64) := by
    show own_t5_32 (own_F3 w) * own_F4 (-4658895280553007687) = _
    rw [s3]
    show (_ * (-4658895280553007687 : Int64)) * own_F4 (-4658895280553007687) = _
    rw [Int64.mul_assoc, own_i1, Int64.mul_one]
  show own_t5_53 (own_F3 w) = _
  apply Int64.toBitVec_inj.mp
  have e : (own_t5_41 (own_F3 w)).toBitVec = (w + (-7046029254386353131 : Int64)).toBitVec ^^^ (w + (-7046029254386353131 : Int64)).toBitVec >>> 30 := by
    rw [s4, Int64.toBitVec_xor, own_sr _ ((30 : Int32) &&& 0x3f).toInt64.toUInt64 (k := 30) (by decide) (by decide)]
  show (((own_t5_41 (own_F3 w)) ^^^ _) ^^^ _).toBitVec = _
  rw [Int64.toBitVec_xor, Int64.toBitVec_xor, own_sr _ ((30 : Int32) &&& 0x3f).toInt64.toUInt64 (k := 30) (by decide) (by decide), own_sr _ ((60 : Int32) &&& 0x3f).toInt64.toUInt64 (k := 60) (by decide) (by decide), e]
  exact own_x30 _
theorem own_ef0 (m : MethodId) (q0 : Int64) : entryFrame m #[(.long q0)] maxLocals = mkF m 0 #[.val (.long q0), .second, .unset, .unset, .unset, .unset, .unset, .unset, .unset] [] := by first | (simp [entryFrame, mkF, argsToLocals, Value.category, maxLocals]; done) | rfl
set_option maxRecDepth 65536 in
set_option maxHeartbeats 40000000 in
theorem own_c0 (l : Launch) (Z : State) (a0 : Array Value) (hw : ∀ d ∈ tables_1, d.before a0 Z = true) (h0 : Heap) (n0 : Nat) (Z0 : n0 ≤ h0.size) (q0 : Int64) :
    own_M l x code maxLocals ret tables_1 room_1 Z #[(.long q0)] h0 (own_Q n0 h0 [] (fun v _ => v = some (.int 1))) := by
  refine own_body (plainFor_of_name own_pn1) ?_
  intro p e s m below meth c T0 X0 hx hby hml hown hnm hret hlk hZ
  refine own_cast (own_ef0 m q0) ?_
  refine own_newO X0 hx hZ hown (own_w0 hw) (own_w1 hw) (own_w2 hw) (hb hby at_0) (by decide) (by decide) ?_
  intro T9 h9 b9 g9 q9 X9 E9 A9 D9
  have ga_b9 : n0 ≤ b9 := Nat.le_trans Z0 q9
  have Zn9 : n0 ≤ h9.size := Nat.le_trans Z0 E9.1
  have F9_state : Fld Z h9 b9 "com/example/gauge_links/gaugelinks/rank/SplitMix64" "state" "J" (.long (0 : Int64)) := D9 (Or.inl (own_w10 hw)) (ty := .long) (by decide)
  refine own_st (f' := (mkF m 4 #[.val (.long q0), .second, .unset, .unset, .unset, .unset, .unset, .unset, .unset] [(.ref b9), (.ref b9)])) (fun t k => XS.dup X9.her hx rfl (hb hby at_3) rfl rfl k) ?_
  refine own_st (f' := (mkF m 5 #[.val (.long q0), .second, .unset, .unset, .unset, .unset, .unset, .unset, .unset] [(.long q0), (.ref b9), (.ref b9)])) (fun t k => XS.lloadN X9.her hx rfl (hb hby at_4) rfl k) ?_
  refine own_callC (y := (⟨"com/example/gauge_links/gaugelinks/rank/SplitMix64", "<init>", "(J)V"⟩ : MethodName)) (W := 1) [(.long q0)] X9 hx hZ hown rfl (own_w3 hw) (own_w4 hw) (own_w2 hw) (own_w5 hw) (by decide) (own_c1 l Z a0 hw h9 n0 Zn9 b9 q0 A9 F9_state ga_b9) (allS (Or.inr q9) all0) (by decide) (by decide) (by decide) (by decide) (by rw [hml]; rfl) own_pd0 rfl rfl (Nat.le_of_eq rfl) (hb hby at_5) ?_
  rintro v10 T10 h10 X10 K10 ⟨rfl, Ax10, Fx10⟩
  have A10_b9 := A9.keep K10
  have Zn10 : n0 ≤ h10.size := Nat.le_trans Zn9 K10.1
  show own_G p e below _ T10 (mkF m 8 #[.val (.long q0), .second, .unset, .unset, .unset, .unset, .unset, .unset, .unset] [(.ref b9)])
  refine own_st (f' := (mkF m 9 #[.val (.long q0), .second, .val (.ref b9), .unset, .unset, .unset, .unset, .unset, .unset] [])) (fun t k => XS.astoreN X10.her hx rfl (hb hby at_8) rfl rfl (l' := #[.val (.long q0), .second, .val (.ref b9), .unset, .unset, .unset, .unset, .unset, .unset]) rfl k) ?_
  refine own_st (f' := (mkF m 10 #[.val (.long q0), .second, .val (.ref b9), .unset, .unset, .unset, .unset, .unset, .unset] [(.ref b9)])) (fun t k => XS.aloadN X10.her hx rfl (hb hby at_9) rfl rfl k) ?_
  refine own_callV (y := (⟨"com/example/gauge_links/gaugelinks/rank/SplitMix64", "next", "()J"⟩ : MethodName)) (W := 0) [] X10 hx hZ hown (own_w11 hw) (own_w12 hw) (own_w14 hw) (own_w13 hw) (own_w2 hw) (own_w15 hw) (by decide) Ax10 (own_c3 l Z a0 hw h10 n0 Zn10 b9 q0 Ax10 Fx10 ga_b9) (allS (Or.inr q9) all0) (by decide) (by decide) (by decide) (by decide) (by rw [hml]; rfl) own_pd1 rfl rfl (Nat.le_of_eq rfl) (hb hby at_10) ?_
  rintro v11 T11 h11 X11 K11 ⟨rfl, Ax11, Fx11⟩
  have A11_b9 := Ax10.keep K11
  have Zn11 : n0 ≤ h11.size := Nat.le_trans Zn10 K11.1
  show own_G p e below _ T11 (mkF m 13 #[.val (.long q0), .second, .val (.ref b9), .unset, .unset, .unset, .unset, .unset, .unset] [(.long (own_F3 q0))])
  refine own_st (f' := (mkF m 14 #[.val (.long q0), .second, .val (.ref b9), .val (.long (own_F3 q0)), .second, .unset, .unset, .unset, .unset] [])) (fun t k => XS.lstoreN X11.her hx rfl (hb hby at_13) rfl (l' := #[.val (.long q0), .second, .val (.ref b9), .val (.long (own_F3 q0)), .second, .unset, .unset, .unset, .unset]) rfl k) ?_
  refine own_st (f' := (mkF m 15 #[.val (.long q0), .second, .val (.ref b9), .val (.long (own_F3 q0)), .second, .unset, .unset, .unset, .unset] [(.ref b9)])) (fun t k => XS.aloadN X11.her hx rfl (hb hby at_14) rfl rfl k) ?_
  refine own_callV (y := (⟨"com/example/gauge_links/gaugelinks/rank/SplitMix64", "next", "()J"⟩ : MethodName)) (W := 0) [] X11 hx hZ hown (own_w11 hw) (own_w12 hw) (own_w14 hw) (own_w13 hw) (own_w2 hw) (own_w15 hw) (by decide) Ax11 (own_c3 l Z a0 hw h11 n0 Zn11 b9 (q0 + (-7046029254386353131 : Int64)) Ax11 Fx11 ga_b9) (allS (Or.inr q9) all0) (by decide) (by decide) (by decide) (by decide) (by rw [hml]; rfl) own_pd1 rfl rfl (Nat.le_of_eq rfl) (hb hby at_15) ?_
  rintro v12 T12 h12 X12 K12 ⟨rfl, Ax12, Fx12⟩
  have A12_b9 := Ax11.keep K12
  have Zn12 : n0 ≤ h12.size := Nat.le_trans Zn11 K12.1
  show own_G p e below _ T12 (mkF m 18 #[.val (.long q0), .second, .val (.ref b9), .val (.long (own_F3 q0)), .second, .unset, .unset, .unset, .unset] [(.long (own_F3 (q0 + (-7046029254386353131 : Int64))))])
  refine own_st (f' := (mkF m 20 #[.val (.long q0), .second, .val (.ref b9), .val (.long (own_F3 q0)), .second, .val (.long (own_F3 (q0 + (-7046029254386353131 : Int64)))), .second, .unset, .unset] [])) (fun t k => XS.lstore X12.her hx rfl (hb hby at_18) rfl (l' := #[.val (.long q0), .second, .val (.ref b9), .val (.long (own_F3 q0)), .second, .val (.long (own_F3 (q0 + (-7046029254386353131 : Int64)))), .second, .unset, .unset]) rfl k) ?_
  refine own_ldcL X12 hx hZ hown (own_w19 hw) (hb hby at_20) ?_
  refine own_ldcL X12 hx hZ hown (own_w19 hw) (hb hby at_23) ?_
  refine own_callSP (y := (⟨"com/example/gauge_links/gaugelinks/rank/SplitMix64NextPinLaw", "inverse", "(J)J"⟩ : MethodName)) (W := 2) [(.long (-4658895280553007687 : Int64))] X12 hx hZ hown (own_w20 hw) (own_w21 hw) (own_w22 hw) (own_w23 hw) (by decide) (own_c4 l Z a0 hw h12 n0 Zn12 (-4658895280553007687 : Int64)) (by decide) (by decide) (by decide) (by decide) (by rw [hml]; rfl) own_pd2 rfl rfl (Nat.le_of_eq rfl) (hb hby at_26) ?_
  intro T13 X13
  show own_G p e below _ T13 (mkF m 29 #[.val (.long q0), .second, .val (.ref b9), .val (.long (own_F3 q0)), .second, .val (.long (own_F3 (q0 + (-7046029254386353131 : Int64)))), .second, .unset, .unset] [(.long (own_F4 (-4658895280553007687 : Int64))), (.long (-4658895280553007687 : Int64))])
  refine own_st (f' := (mkF m 30 #[.val (.long q0), .second, .val (.ref b9), .val (.long (own_F3 q0)), .second, .val (.long (own_F3 (q0 + (-7046029254386353131 : Int64)))), .second, .unset, .unset] [(.long ((-4658895280553007687 : Int64) * (own_F4 (-4658895280553007687 : Int64))))])) (fun t k => XS.lmul X13.her hx rfl (hb hby at_29) rfl k) ?_
  refine own_st (f' := (mkF m 31 #[.val (.long q0), .second, .val (.ref b9), .val (.long (own_F3 q0)), .second, .val (.long (own_F3 (q0 + (-7046029254386353131 : Int64)))), .second, .unset, .unset] [(.long (1 : Int64)), (.long ((-4658895280553007687 : Int64) * (own_F4 (-4658895280553007687 : Int64))))])) (fun t k => XS.lconst X13.her hx rfl (hb hby at_30) k) ?_
  refine own_st (f' := (mkF m 32 #[.val (.long q0), .second, .val (.ref b9), .val (.long (own_F3 q0)), .second, .val (.long (own_F3 (q0 + (-7046029254386353131 : Int64)))), .second, .unset, .unset] [(.int (lcmpW ((-4658895280553007687 : Int64) * (own_F4 (-4658895280553007687 : Int64))) (1 : Int64)))])) (fun t k => XS.lcmp X13.her hx rfl (hb hby at_31) rfl k) ?_
  refine own_st (f' := (mkF m 35 #[.val (.long q0), .second, .val (.ref b9), .val (.long (own_F3 q0)), .second, .val (.long (own_F3 (q0 + (-7046029254386353131 : Int64)))), .second, .unset, .unset] [])) (fun t k => XS.ifNo X13.her hx rfl (hb hby at_32) rfl ((if0 _ _).trans (teq ((lw_eq _ _).mpr own_i1 : (lcmpW ((-4658895280553007687 : Int64) * (own_F4 (-4658895280553007687 : Int64))) (1 : Int64)) = (0 : Int32))).2) k) ?_
  refine own_st (f' := (mkF m 36 #[.val (.long q0), .second, .val (.ref b9), .val (.long (own_F3 q0)), .second, .val (.long (own_F3 (q0 + (-7046029254386353131 : Int64)))), .second, .unset, .unset] [(.int (1 : Int32))])) (fun t k => XS.iconst X13.her hx rfl (hb hby at_35) k) ?_
  refine own_st (f' := (mkF m 40 #[.val (.long q0), .second, .val (.ref b9), .val (.long (own_F3 q0)), .second, .val (.long (own_F3 (q0 + (-7046029254386353131 : Int64)))), .second, .unset, .unset] [(.int (1 : Int32))])) (fun t k => XS.goto X13.her hx rfl (pc0 := 36) (pc' := 40) rfl (hb hby at_36) (by decide) (by decide) k) ?_
  refine own_st (f' := (mkF m 42 #[.val (.long q0), .second, .val (.ref b9), .val (.long (own_F3 q0)), .second, .val (.long (own_F3 (q0 + (-7046029254386353131 : Int64)))), .second, .val (.int (1 : Int32)), .unset] [])) (fun t k => XS.istore X13.her hx rfl (hb hby at_40) rfl (l' := #[.val (.long q0), .second, .val (.ref b9), .val (.long (own_F3 q0)), .second, .val (.long (own_F3 (q0 + (-7046029254386353131 : Int64)))), .second, .val (.int (1 : Int32)), .unset]) rfl k) ?_
  refine own_ldcL X13 hx hZ hown (own_w25 hw) (hb hby at_42) ?_
  refine own_ldcL X13 hx hZ hown (own_w25 hw) (hb hby at_45) ?_
  refine own_callSP (y := (⟨"com/example/gauge_links/gaugelinks/rank/SplitMix64NextPinLaw", "inverse", "(J)J"⟩ : MethodName)) (W := 2) [(.long (-7723592293110705685 : Int64))] X13 hx hZ hown (own_w20 hw) (own_w21 hw) (own_w22 hw) (own_w23 hw) (by decide) (own_c4 l Z a0 hw h12 n0 Zn12 (-7723592293110705685 : Int64)) (by decide) (by decide) (by decide) (by decide) (by rw [hml]; rfl) own_pd2 rfl rfl (Nat.le_of_eq rfl) (hb hby at_48) ?_
  intro T14 X14
  show own_G p e below _ T14 (mkF m 51 #[.val (.long q0), .second, .val (.ref b9), .val (.long (own_F3 q0)), .second, .val (.long (own_F3 (q0 + (-7046029254386353131 : Int64)))), .second, .val (.int (1 : Int32)), .unset] [(.long (own_F4 (-7723592293110705685 : Int64))), (.long (-7723592293110705685 : Int64))])
  refine own_st (f' := (mkF m 52 #[.val (.long q0), .second, .val (.ref b9), .val (.long (own_F3 q0)), .second, .val (.long (own_F3 (q0 + (-7046029254386353131 : Int64)))), .second, .val (.int (1 : Int32)), .unset] [(.long ((-7723592293110705685 : Int64) * (own_F4 (-7723592293110705685 : Int64))))])) (fun t k => XS.lmul X14.her hx rfl (hb hby at_51) rfl k) ?_
  refine own_st (f' := (mkF m 53 #[.val (.long q0), .second, .val (.ref b9), .val (.long (own_F3 q0)), .second, .val (.long (own_F3 (q0 + (-7046029254386353131 : Int64)))), .second, .val (.int (1 : Int32)), .unset] [(.long (1 : Int64)), (.long ((-7723592293110705685 : Int64) * (own_F4 (-7723592293110705685 : Int64))))])) (fun t k => XS.lconst X14.her hx rfl (hb hby at_52) k) ?_
  refine own_st (f' := (mkF m 54 #[.val (.long q0), .second, .val (.ref b9), .val (.long (own_F3 q0)), .second, .val (.long (own_F3 (q0 + (-7046029254386353131 : Int64)))), .second, .val (.int (1 : Int32)), .unset] [(.int (lcmpW ((-7723592293110705685 : Int64) * (own_F4 (-7723592293110705685 : Int64))) (1 : Int64)))])) (fun t k => XS.lcmp X14.her hx rfl (hb hby at_53) rfl k) ?_
  refine own_st (f' := (mkF m 57 #[.val (.long q0), .second, .val (.ref b9), .val (.long (own_F3 q0)), .second, .val (.long (own_F3 (q0 + (-7046029254386353131 : Int64)))), .second, .val (.int (1 : Int32)), .unset] [])) (fun t k => XS.ifNo X14.her hx rfl (hb hby at_54) rfl ((if0 _ _).trans (teq ((lw_eq _ _).mpr own_i2 : (lcmpW ((-7723592293110705685 : Int64) * (own_F4 (-7723592293110705685 : Int64))) (1 : Int64)) = (0 : Int32))).2) k) ?_
  refine own_st (f' := (mkF m 58 #[.val (.long q0), .second, .val (.ref b9), .val (.long (own_F3 q0)), .second, .val (.long (own_F3 (q0 + (-7046029254386353131 : Int64)))), .second, .val (.int (1 : Int32)), .unset] [(.int (1 : Int32))])) (fun t k => XS.iconst X14.her hx rfl (hb hby at_57) k) ?_
  refine own_st (f' := (mkF m 62 #[.val (.long q0), .second, .val (.ref b9), .val (.long (own_F3 q0)), .second, .val (.long (own_F3 (q0 + (-7046029254386353131 : Int64)))), .second, .val (.int (1 : Int32)), .unset] [(.int (1 : Int32))])) (fun t k => XS.goto X14.her hx rfl (pc0 := 58) (pc' := 62) rfl (hb hby at_58) (by decide) (by decide) k) ?_
  refine own_st (f' := (mkF m 64 #[.val (.long q0), .second, .val (.ref b9), .val (.long (own_F3 q0)), .second, .val (.long (own_F3 (q0 + (-7046029254386353131 : Int64)))), .second, .val (.int (1 : Int32)), .val (.int (1 : Int32))] [])) (fun t k => XS.istore X14.her hx rfl (hb hby at_62) rfl (l' := #[.val (.long q0), .second, .val (.ref b9), .val (.long (own_F3 q0)), .second, .val (.long (own_F3 (q0 + (-7046029254386353131 : Int64)))), .second, .val (.int (1 : Int32)), .val (.int (1 : Int32))]) rfl k) ?_
  refine own_st (f' := (mkF m 66 #[.val (.long q0), .second, .val (.ref b9), .val (.long (own_F3 q0)), .second, .val (.long (own_F3 (q0 + (-7046029254386353131 : Int64)))), .second, .val (.int (1 : Int32)), .val (.int (1 : Int32))] [(.int (1 : Int32))])) (fun t k => XS.iload X14.her hx rfl (hb hby at_64) rfl k) ?_
  refine own_st (f' := (mkF m 69 #[.val (.long q0), .second, .val (.ref b9), .val (.long (own_F3 q0)), .second, .val (.long (own_F3 (q0 + (-7046029254386353131 : Int64)))), .second, .val (.int (1 : Int32)), .val (.int (1 : Int32))] [])) (fun t k => XS.ifNo X14.her hx rfl (hb hby at_66) rfl ((if0 _ _).trans (feq (by decide : ¬ ((1 : Int32) = (0 : Int32)))).1) k) ?_
  refine own_st (f' := (mkF m 71 #[.val (.long q0), .second, .val (.ref b9), .val (.long (own_F3 q0)), .second, .val (.long (own_F3 (q0 + (-7046029254386353131 : Int64)))), .second, .val (.int (1 : Int32)), .val (.int (1 : Int32))] [(.int (1 : Int32))])) (fun t k => XS.iload X14.her hx rfl (hb hby at_69) rfl k) ?_
  refine own_st (f' := (mkF m 74 #[.val (.long q0), .second, .val (.ref b9), .val (.long (own_F3 q0)), .second, .val (.long (own_F3 (q0 + (-7046029254386353131 : Int64)))), .second, .val (.int (1 : Int32)), .val (.int (1 : Int32))] [])) (fun t k => XS.ifNo X14.her hx rfl (hb hby at_71) rfl ((if0 _ _).trans (feq (by decide : ¬ ((1 : Int32) = (0 : Int32)))).1) k) ?_
  refine own_st (f' := (mkF m 75 #[.val (.long q0), .second, .val (.ref b9), .val (.long (own_F3 q0)), .second, .val (.long (own_F3 (q0 + (-7046029254386353131 : Int64)))), .second, .val (.int (1 : Int32)), .val (.int (1 : Int32))] [(.long (own_F3 q0))])) (fun t k => XS.lloadN X14.her hx rfl (hb hby at_74) rfl k) ?_
  refine own_callSP (y := (⟨"com/example/gauge_links/gaugelinks/rank/SplitMix64NextPinLaw", "unmix", "(J)J"⟩ : MethodName)) (W := 0) [(.long (own_F3 q0))] X14 hx hZ hown (own_w26 hw) (own_w27 hw) (own_w22 hw) (own_w28 hw) (by decide) (own_c5 l Z a0 hw h12 n0 Zn12 (own_F3 q0)) (by decide) (by decide) (by decide) (by decide) (by rw [hml]; rfl) own_pd2 rfl rfl (Nat.le_of_eq rfl) (hb hby at_75) ?_
  intro T15 X15
  show own_G p e below _ T15 (mkF m 78 #[.val (.long q0), .second, .val (.ref b9), .val (.long (own_F3 q0)), .second, .val (.long (own_F3 (q0 + (-7046029254386353131 : Int64)))), .second, .val (.int (1 : Int32)), .val (.int (1 : Int32))] [(.long (own_F5 (own_F3 q0)))])
  refine own_st (f' := (mkF m 79 #[.val (.long q0), .second, .val (.ref b9), .val (.long (own_F3 q0)), .second, .val (.long (own_F3 (q0 + (-7046029254386353131 : Int64)))), .second, .val (.int (1 : Int32)), .val (.int (1 : Int32))] [(.long q0), (.long (own_F5 (own_F3 q0)))])) (fun t k => XS.lloadN X15.her hx rfl (hb hby at_78) rfl k) ?_
  refine own_ldcL X15 hx hZ hown (own_w29 hw) (hb hby at_79) ?_
  refine own_st (f' := (mkF m 83 #[.val (.long q0), .second, .val (.ref b9), .val (.long (own_F3 q0)), .second, .val (.long (own_F3 (q0 + (-7046029254386353131 : Int64)))), .second, .val (.int (1 : Int32)), .val (.int (1 : Int32))] [(.long (q0 + (-7046029254386353131 : Int64))), (.long (own_F5 (own_F3 q0)))])) (fun t k => XS.ladd X15.her hx rfl (hb hby at_82) rfl k) ?_
  refine own_st (f' := (mkF m 84 #[.val (.long q0), .second, .val (.ref b9), .val (.long (own_F3 q0)), .second, .val (.long (own_F3 (q0 + (-7046029254386353131 : Int64)))), .second, .val (.int (1 : Int32)), .val (.int (1 : Int32))] [(.int (lcmpW (own_F5 (own_F3 q0)) (q0 + (-7046029254386353131 : Int64))))])) (fun t k => XS.lcmp X15.her hx rfl (hb hby at_83) rfl k) ?_
  refine own_st (f' := (mkF m 87 #[.val (.long q0), .second, .val (.ref b9), .val (.long (own_F3 q0)), .second, .val (.long (own_F3 (q0 + (-7046029254386353131 : Int64)))), .second, .val (.int (1 : Int32)), .val (.int (1 : Int32))] [])) (fun t k => XS.ifNo X15.her hx rfl (hb hby at_84) rfl ((if0 _ _).trans (teq ((lw_eq _ _).mpr (own_un _) : (lcmpW (own_F5 (own_F3 q0)) (q0 + (-7046029254386353131 : Int64))) = (0 : Int32))).2) k) ?_
  refine own_st (f' := (mkF m 89 #[.val (.long q0), .second, .val (.ref b9), .val (.long (own_F3 q0)), .second, .val (.long (own_F3 (q0 + (-7046029254386353131 : Int64)))), .second, .val (.int (1 : Int32)), .val (.int (1 : Int32))] [(.long (own_F3 (q0 + (-7046029254386353131 : Int64))))])) (fun t k => XS.lload X15.her hx rfl (hb hby at_87) rfl k) ?_
  refine own_callSP (y := (⟨"com/example/gauge_links/gaugelinks/rank/SplitMix64NextPinLaw", "unmix", "(J)J"⟩ : MethodName)) (W := 0) [(.long (own_F3 (q0 + (-7046029254386353131 : Int64))))] X15 hx hZ hown (own_w26 hw) (own_w27 hw) (own_w22 hw) (own_w28 hw) (by decide) (own_c5 l Z a0 hw h12 n0 Zn12 (own_F3 (q0 + (-7046029254386353131 : Int64)))) (by decide) (by decide) (by decide) (by decide) (by rw [hml]; rfl) own_pd2 rfl rfl (Nat.le_of_eq rfl) (hb hby at_89) ?_
  intro T16 X16
  show own_G p e below _ T16 (mkF m 92 #[.val (.long q0), .second, .val (.ref b9), .val (.long (own_F3 q0)), .second, .val (.long (own_F3 (q0 + (-7046029254386353131 : Int64)))), .second, .val (.int (1 : Int32)), .val (.int (1 : Int32))] [(.long (own_F5 (own_F3 (q0 + (-7046029254386353131 : Int64)))))])
  refine own_st (f' := (mkF m 93 #[.val (.long q0), .second, .val (.ref b9), .val (.long (own_F3 q0)), .second, .val (.long (own_F3 (q0 + (-7046029254386353131 : Int64)))), .second, .val (.int (1 : Int32)), .val (.int (1 : Int32))] [(.long q0), (.long (own_F5 (own_F3 (q0 + (-7046029254386353131 : Int64)))))])) (fun t k => XS.lloadN X16.her hx rfl (hb hby at_92) rfl k) ?_
  refine own_ldcL X16 hx hZ hown (own_w29 hw) (hb hby at_93) ?_
  refine own_st (f' := (mkF m 97 #[.val (.long q0), .second, .val (.ref b9), .val (.long (own_F3 q0)), .second, .val (.long (own_F3 (q0 + (-7046029254386353131 : Int64)))), .second, .val (.int (1 : Int32)), .val (.int (1 : Int32))] [(.long (q0 + (-7046029254386353131 : Int64))), (.long (own_F5 (own_F3 (q0 + (-7046029254386353131 : Int64)))))])) (fun t k => XS.ladd X16.her hx rfl (hb hby at_96) rfl k) ?_
  refine own_ldcL X16 hx hZ hown (own_w29 hw) (hb hby at_97) ?_
  refine own_st (f' := (mkF m 101 #[.val (.long q0), .second, .val (.ref b9), .val (.long (own_F3 q0)), .second, .val (.long (own_F3 (q0 + (-7046029254386353131 : Int64)))), .second, .val (.int (1 : Int32)), .val (.int (1 : Int32))] [(.long ((q0 + (-7046029254386353131 : Int64)) + (-7046029254386353131 : Int64))), (.long (own_F5 (own_F3 (q0 + (-7046029254386353131 : Int64)))))])) (fun t k => XS.ladd X16.her hx rfl (hb hby at_100) rfl k) ?_
  refine own_st (f' := (mkF m 102 #[.val (.long q0), .second, .val (.ref b9), .val (.long (own_F3 q0)), .second, .val (.long (own_F3 (q0 + (-7046029254386353131 : Int64)))), .second, .val (.int (1 : Int32)), .val (.int (1 : Int32))] [(.int (lcmpW (own_F5 (own_F3 (q0 + (-7046029254386353131 : Int64)))) ((q0 + (-7046029254386353131 : Int64)) + (-7046029254386353131 : Int64))))])) (fun t k => XS.lcmp X16.her hx rfl (hb hby at_101) rfl k) ?_
  refine own_st (f' := (mkF m 105 #[.val (.long q0), .second, .val (.ref b9), .val (.long (own_F3 q0)), .second, .val (.long (own_F3 (q0 + (-7046029254386353131 : Int64)))), .second, .val (.int (1 : Int32)), .val (.int (1 : Int32))] [])) (fun t k => XS.ifNo X16.her hx rfl (hb hby at_102) rfl ((if0 _ _).trans (teq ((lw_eq _ _).mpr (own_un _) : (lcmpW (own_F5 (own_F3 (q0 + (-7046029254386353131 : Int64)))) ((q0 + (-7046029254386353131 : Int64)) + (-7046029254386353131 : Int64))) = (0 : Int32))).2) k) ?_
  refine own_st (f' := (mkF m 106 #[.val (.long q0), .second, .val (.ref b9), .val (.long (own_F3 q0)), .second, .val (.long (own_F3 (q0 + (-7046029254386353131 : Int64)))), .second, .val (.int (1 : Int32)), .val (.int (1 : Int32))] [(.int (1 : Int32))])) (fun t k => XS.iconst X16.her hx rfl (hb hby at_105) k) ?_
  refine own_st (f' := (mkF m 110 #[.val (.long q0), .second, .val (.ref b9), .val (.long (own_F3 q0)), .second, .val (.long (own_F3 (q0 + (-7046029254386353131 : Int64)))), .second, .val (.int (1 : Int32)), .val (.int (1 : Int32))] [(.int (1 : Int32))])) (fun t k => XS.goto X16.her hx rfl (pc0 := 106) (pc' := 110) rfl (hb hby at_106) (by decide) (by decide) k) ?_
  refine own_retN (t := .boolean) X16 hx hret hlk (by simp) (hb hby at_110) (by first | decide | omega) (by first | decide | omega) ?_
  exact congrArg (fun q => some (Value.int q)) (by decide)
set_option maxRecDepth 65536 in
set_option maxHeartbeats 40000000 in
theorem own_comes {Post : Tables → Env → Array Value → State → Outcome → State → Prop} (hpost : ∀ tb e args s v u, (limb_1_1.after args s (.returned v) u = true ∧ limb_1_2.after args s (.returned v) u = true) → FrameEnd s (.returned v) u (Jvm.fieldLocs frame_1_writes args s ++ Jvm.arrayLocs frame_1_arrays args s ++ Jvm.staticLocs frame_1_statics s) 16 128 → Post tb e args s (.returned v) u) :
    ArmFor flags0 classFile x code maxLocals ret World_1 tables_1 room_1 Calls_1 rest_1 Pre_1 Post := by
  intro l hfl _ _ p e ha hc hk s m args below hf hA hF happ hP
  obtain ⟨hcalls, hrest, hpre⟩ := hP
  obtain ⟨-, -, -, hnamed, -, -, -, hat⟩ := (Spec.applies_iff hf).mp happ
  obtain ⟨hg, hn⟩ := and_e (Cond.before_iff.mp (show (Jvm.Cond.and given_1 narrow_1).before args s = true from hpre))
  obtain ⟨g17, g18⟩ := and_e hg
  obtain ⟨w0, rfl⟩ : ∃ w0 : Value, args = #[w0] := by
    have hs : args.size = 1 := by simpa [Cond.value, given_1] using g17
    obtain ⟨L⟩ := args
    match L, hs with
    | [w0], _ => exact ⟨w0, rfl⟩
  have hw := fun d (hd : d ∈ tables_1) => atoms_spec (ws := Jvm.Cond.code x code maxLocals ret :: tables_1) hat d (List.mem_cons_of_mem _ hd)
  obtain ⟨i0, ei0⟩ := isL_v g18
  obtain rfl : w0 = (.long i0) := Option.some.inj ei0
  obtain ⟨n, o, h1, h2, h3, v, L, rfl, ⟨N, -, hv⟩, hq⟩ := own_c0 l s _ hw s.heap s.heap.size (Nat.le_refl _) i0 p e ha hc hk s m _ below hf ((Spec.applies_iff_loose hf).mp happ).1 ⟨rfl, State.Warmed39.refl s, rfl⟩ trivial
  obtain rfl : v = some (.int 1) := hv
  refine ⟨n, _, h1, h2, h3, hpost _ _ _ _ _ _ ⟨Cond.after_iff.mpr rfl, Cond.after_iff.mpr (eq_i res_at (Term.int_eval (1)) rfl)⟩ ⟨hq.1, hq.2.1, (hq.2.2.sift fun y hy => Or.inr (N y hy)).mono (by decide) (by decide)⟩⟩
theorem main_1_1 : Claimed_1_1 := own_comes fun _ _ _ _ _ _ h hF => ⟨h.1, hF⟩
theorem main_1_2 : Claimed_1_2 := own_comes fun _ _ _ _ _ _ h hF => ⟨h.2, hF⟩
end Jvm.Pilot.@@N@@
namespace Jvm.Pilot.@@N@@
open Jvm Jvm.ClassFile Sem Op Lib Jvm.Free Jvm.Stand Jvm.Pilot.@@N@@.Jvm.D
/-! MADE BY PROGRAM (witnessworld.py) out of the Statement's table words and the real class files: 9 classes; the members and pool entries that the words name. The judged class is class 1, her method 3. -/
namespace start1
open Jvm.ClassFile
def u (s : String) : CpInfo := .utf8 (stringToUtf16 s)
/-- a pool by its gaps: so many unusable entries, then the entry; so many at the end -/
def gap : Nat → List CpInfo → List CpInfo
  | 0, r => r
  | n + 1, r => .unusable :: gap n r
def poolList (es : List (Nat × CpInfo)) (last : Nat) : List CpInfo := es.foldr (fun e r => gap e.1 (e.2 :: r)) (gap last [])
def pool (es : List (Nat × CpInfo)) (last : Nat) : Array CpInfo := ⟨poolList es last⟩
def fileOf (pool : Array CpInfo) (this : Nat) (attrs : Array Attribute := #[]) (ms : Array MethodInfo := #[]) (fl : Nat := 33) (sup : Nat := 0) (ifs : Array Nat := #[]) (fds : Array FieldInfo := #[]) : ClassFile where
  minorVersion := 0
  majorVersion := 65
  constantPool := pool
  accessFlags := fl
  thisClass := this
  superClass := sup
  interfaces := ifs
  fields := fds
  methods := ms
  attributes := attrs
def plain (name : String) (sup : Option ClassId) : Class where
  name := name
  kind := .ordinary
  loader := none
  accessFlags := 33
  super := sup
  interfaces := #[]
  cf := none
  fields := #[]
  methods := #[]
  instanceTypes := #[]
  staticTypes := #[]
  resolved := #[]
  callSites := []
  init := .initialized
  statics := none
  mirror := none

def pool0 : Array CpInfo := pool [(5, u "<init>"), (0, u "()V"), (1, .class_ 10), (1, u "java/lang/Object")] 113

def k0c0 : Code := { maxStack := 0, maxLocals := 1, code := object_method_1_code, exceptionTable := #[], attributes := #[] }
def k0m0 : Method := { name := "<init>", desc := "()V", sig := { parameters := [], returnType := none }, accessFlags := 1, code := some k0c0 }
/-- java/lang/Object -/
def k0 : Class := { plain "java/lang/Object" none with
  accessFlags := 33
  interfaces := #[]
  cf := some (fileOf pool0 8 #[] #[{ accessFlags := 1, nameIndex := 5, descriptorIndex := 6, attributes := #[] }] 33 0 #[] #[])
  fields := #[]
  methods := #[k0m0]
  instanceTypes := #[]
  staticTypes := #[]
  resolved := Array.replicate 124 none
  statics := none }

def pool1 : Array CpInfo := pool [(2, .class_ 4), (1, u "java/lang/Object"), (0, u "<init>"), (0, u "()V"), (0, .long 2), (1, .class_ 10), (0, u "com/example/gauge_links/gaugelinks/rank/SplitMix64NextPinLaw"), (0, .long 10723151780598845931), (1, .methodref 9 14), (0, .nameAndType 15 16), (0, u "inverse"), (0, u "(J)J"), (0, .long 13787848793156543929), (1, .class_ 20), (0, u "com/example/gauge_links/gaugelinks/rank/SplitMix64"), (0, .methodref 19 22), (0, .nameAndType 5 23), (0, u "(J)V"), (0, .methodref 19 25), (0, .nameAndType 26 27), (0, u "next"), (0, u "()J"), (0, .methodref 9 29), (0, .nameAndType 30 16), (0, u "unmix"), (0, .long 11400714819323198485), (1, u "INC"), (0, u "J"), (1, u "M1"), (0, u "M2"), (2, u "law"), (0, u "(J)Z")] 3

def k1m0 : Method := { name := "<init>", desc := "()V", sig := { parameters := [], returnType := none }, accessFlags := 1, code := none }
def k1c1 : Code := { maxStack := 8, maxLocals := 4, code := method_2_code, exceptionTable := #[], attributes := #[] }
def k1m1 : Method := { name := "inverse", desc := "(J)J", sig := { parameters := [.long], returnType := some .long }, accessFlags := 10, code := some k1c1 }
def k1c2 : Code := { maxStack := 5, maxLocals := 4, code := method_3_code, exceptionTable := #[], attributes := #[] }
def k1m2 : Method := { name := "unmix", desc := "(J)J", sig := { parameters := [.long], returnType := some .long }, accessFlags := 10, code := some k1c2 }
def k1c3 : Code := { maxStack := 6, maxLocals := 9, code := code, exceptionTable := #[], attributes := #[] }
def k1m3 : Method := { name := "law", desc := "(J)Z", sig := { parameters := [.long], returnType := some .boolean }, accessFlags := 9, code := some k1c3 }
/-- com/example/gauge_links/gaugelinks/rank/SplitMix64NextPinLaw -/
def k1 : Class := { plain "com/example/gauge_links/gaugelinks/rank/SplitMix64NextPinLaw" (some 0) with
  accessFlags := 49
  interfaces := #[]
  cf := some (fileOf pool1 9 #[] #[{ accessFlags := 1, nameIndex := 5, descriptorIndex := 6, attributes := #[] }, { accessFlags := 10, nameIndex := 15, descriptorIndex := 16, attributes := #[] }, { accessFlags := 10, nameIndex := 30, descriptorIndex := 16, attributes := #[] }, { accessFlags := 9, nameIndex := 40, descriptorIndex := 41, attributes := #[] }] 49 2 #[] #[{ accessFlags := 26, nameIndex := 33, descriptorIndex := 34, attributes := #[] }, { accessFlags := 26, nameIndex := 36, descriptorIndex := 34, attributes := #[] }, { accessFlags := 26, nameIndex := 37, descriptorIndex := 34, attributes := #[] }])
  fields := #[{ name := "INC", type := .long, accessFlags := 26, slot := 0, constantValue := 0 }, { name := "M1", type := .long, accessFlags := 26, slot := 1, constantValue := 0 }, { name := "M2", type := .long, accessFlags := 26, slot := 2, constantValue := 0 }]
  methods := #[k1m0, k1m1, k1m2, k1m3]
  instanceTypes := #[]
  staticTypes := #[.long, .long, .long]
  resolved := Array.replicate 45 none
  statics := none }

def pool2 : Array CpInfo := pool [(1, .methodref 2 3), (0, .class_ 4), (0, .nameAndType 5 6), (0, u "java/lang/Object"), (0, u "<init>"), (0, u "()V"), (0, .fieldref 8 9), (0, .class_ 10), (0, .nameAndType 11 12), (0, u "com/example/gauge_links/gaugelinks/rank/SplitMix64"), (0, u "state"), (0, u "J"), (0, .long 11400714819323198485), (1, .long 13787848793156543929), (1, .long 10723151780598845931), (3, u "next"), (0, u "()J"), (8, u "INCREMENT"), (1, u "(J)V")] 8

def k2c0 : Code := { maxStack := 3, maxLocals := 3, code := prog_35_method_1_code, exceptionTable := #[], attributes := #[] }
def k2m0 : Method := { name := "<init>", desc := "(J)V", sig := { parameters := [.long], returnType := none }, accessFlags := 1, code := some k2c0 }
def k2c1 : Code := { maxStack := 5, maxLocals := 3, code := prog_35_method_2_code, exceptionTable := #[], attributes := #[] }
def k2m1 : Method := { name := "next", desc := "()J", sig := { parameters := [], returnType := some .long }, accessFlags := 1, code := some k2c1 }
/-- com/example/gauge_links/gaugelinks/rank/SplitMix64 -/
def k2 : Class := { plain "com/example/gauge_links/gaugelinks/rank/SplitMix64" (some 0) with
  accessFlags := 49
  interfaces := #[]
  cf := some (fileOf pool2 8 #[] #[{ accessFlags := 1, nameIndex := 5, descriptorIndex := 33, attributes := #[] }, { accessFlags := 1, nameIndex := 21, descriptorIndex := 22, attributes := #[] }] 49 2 #[] #[{ accessFlags := 26, nameIndex := 31, descriptorIndex := 12, attributes := #[] }, { accessFlags := 2, nameIndex := 11, descriptorIndex := 12, attributes := #[] }])
  fields := #[{ name := "INCREMENT", type := .long, accessFlags := 26, slot := 0, constantValue := 0 }, { name := "state", type := .long, accessFlags := 2, slot := 0, constantValue := 0 }]
  methods := #[k2m0, k2m1]
  instanceTypes := #[.long]
  staticTypes := #[.long]
  resolved := Array.replicate 42 none
  statics := none }

def pool3 : Array CpInfo := pool [(1, u "java/lang/Cloneable"), (0, .class_ 1), (0, u "java/lang/Object"), (0, .class_ 3)] 3

/-- java/lang/Cloneable -/
def k3 : Class := { plain "java/lang/Cloneable" (some 0) with
  accessFlags := 1537
  interfaces := #[]
  cf := some (fileOf pool3 2 #[] #[] 1537 4 #[] #[])
  fields := #[]
  methods := #[]
  instanceTypes := #[]
  staticTypes := #[]
  resolved := Array.replicate 8 none
  statics := none }

def pool4 : Array CpInfo := pool [(1, u "java/io/Serializable"), (0, .class_ 1), (0, u "java/lang/Object"), (0, .class_ 3)] 3

/-- java/io/Serializable -/
def k4 : Class := { plain "java/io/Serializable" (some 0) with
  accessFlags := 1537
  interfaces := #[]
  cf := some (fileOf pool4 2 #[] #[] 1537 4 #[] #[])
  fields := #[]
  methods := #[]
  instanceTypes := #[]
  staticTypes := #[]
  resolved := Array.replicate 8 none
  statics := none }

/-- the primitive byte -/
def k5 : Class := { plain "byte" none with kind := .primitive 'B', accessFlags := 0x411 }
/-- [B -/
def k6 : Class := { plain "[B" (some 0) with kind := .array 5 .byte, interfaces := #[3, 4], accessFlags := 1041 }

/-- the primitive int -/
def k7 : Class := { plain "int" none with kind := .primitive 'I', accessFlags := 0x411 }
/-- [I -/
def k8 : Class := { plain "[I" (some 0) with kind := .array 7 .int, interfaces := #[3, 4], accessFlags := 1041 }

def heap : Heap := #[]
def classes : Array Class := #[k0, k1, k2, k3, k4, k5, k6, k7, k8]
def interned : List (Array UInt16 × Addr) := []
def slotsUsed : Nat := 0
def theMethod : MethodId := ⟨1, 3⟩
def args0 : Array Value := #[.long 7]
def aboutOver (below : List Frame) : State where
  vm := { classes := classes, interned := interned.toArray }
  heap := heap
  slotsUsed := slotsUsed
  threads := #[{ frames := .invoking theMethod args0 :: below }]
def below0 : List Frame := [.native { method := ⟨0, 0⟩, args := #[] }]
def about1 : State := aboutOver below0
def p0 : Program := .bare "" "" ""
def e0 : Env := launch0.env 0 0 0
theorem w_frames : about1.frames = Frame.invoking theMethod args0 :: below0 := rfl
set_option maxRecDepth 65536 in
theorem w_args : argsFit about1.vm theMethod args0 = true := by decide +kernel
set_option maxRecDepth 65536 in
theorem w_heap : heapFits about1 = true := by decide +kernel
set_option maxRecDepth 65536 in
theorem w_runnable : about1.curStatus? = some .runnable := by decide +kernel
set_option maxRecDepth 65536 in
theorem w_alone : about1.alone = true := by decide +kernel
set_option maxRecDepth 65536 in
theorem w_named : about1.methodNamed? x = some theMethod := by decide +kernel
set_option maxRecDepth 65536 in
theorem w_hears : about1.hears theMethod below0 = true := by decide +kernel
set_option maxRecDepth 65536 in
theorem w_ripe : about1.ripe theMethod args0 below0 = true := by decide +kernel
theorem w_running : about1.status = .running := rfl
set_option maxRecDepth 65536 in
theorem w_room : about1.hasRoom e0.platform room_1 = true :=
  launch0.hasRoom_least _ room_1 (by decide +kernel) (by decide +kernel) (by decide +kernel) (by decide +kernel) (by decide +kernel) (by decide +kernel)
theorem allAtoms_all (ts : List Jvm.Cond) (a : Array Jvm.Value) (st : Jvm.State) : (allAtoms ts).before a st = ts.all (fun c => c.before a st) := by
  induction ts with
  | nil => rfl
  | cons c t ih =>
    show (Jvm.Cond.and c (allAtoms t)).before a st = _
    rw [Jvm.Cond.before_and, ih, List.all_cons]
def words1 : List Jvm.Cond := Jvm.Cond.code x code maxLocals ret :: tables_1
/-- a 'code' word, met by the world's own term for the bytes: nothing is compared byte by byte -/
theorem code_word {y : MethodName} {bytes : ByteArray} {mx : Nat} {rt : Option FieldType} {a : Array Value} {s : State} {m : MethodId} {meth : Method} {c : Code} (h1 : s.methodNamed? y = some m) (h2 : s.vm.method? m = some meth) (h3 : meth.code = some c) (h4 : c.code = bytes)
    (h5 : (c.maxLocals == mx && c.exceptionTable.isEmpty && decide (c.maxStack ≤ mostOperands) && decide (meth.sig.returnType = rt) && !meth.locks && decide (parseMethodDescriptor y.desc = some meth.sig)) = true) : (Jvm.Cond.code y bytes mx rt).before a s = true := by
  simp only [Bool.and_eq_true, beq_iff_eq, Bool.not_eq_true', decide_eq_true_eq] at h5
  obtain ⟨⟨⟨⟨⟨g1, g2⟩, g3⟩, g4⟩, g5⟩, g6⟩ := h5
  simp [Cond.before, Cond.holds, Cond.value, h1, h2, h3, h4, g1, g2, g3, g4, g5, g6]
def isCode : Jvm.Cond → Bool
  | .code _ _ _ _ => true
  | _ => false
theorem all_split {L : List Jvm.Cond} {P : Jvm.Cond → Bool} (h1 : L.all (fun c => isCode c || P c) = true) (h2 : ∀ c ∈ L.filter isCode, P c = true) : L.all P = true := by
  refine List.all_eq_true.mpr fun c hc => ?_
  have h := List.all_eq_true.mp h1 c hc
  rcases Bool.eq_false_or_eq_true (isCode c) with hi | hi
  · exact h2 c (List.mem_filter.mpr ⟨hc, hi⟩)
  · simpa [hi] using h
set_option maxRecDepth 65536 in
theorem w_c0 : (Jvm.Cond.code x code maxLocals ret).before args0 about1 = true := code_word (m := ⟨1, 3⟩) (meth := k1m3) (c := k1c3) (by decide +kernel) rfl rfl rfl (by decide +kernel)
set_option maxRecDepth 65536 in
theorem w_c1 : (Jvm.Cond.code ({ cls := "com/example/gauge_links/gaugelinks/rank/SplitMix64", name := "<init>", desc := "(J)V" } : Jvm.MethodName) prog_35_method_1_code (3 : Nat) (Option.none : Option Jvm.ClassFile.FieldType)).before args0 about1 = true := code_word (m := ⟨2, 0⟩) (meth := k2m0) (c := k2c0) (by decide +kernel) rfl rfl rfl (by decide +kernel)
set_option maxRecDepth 65536 in
theorem w_c2 : (Jvm.Cond.code ({ cls := "java/lang/Object", name := "<init>", desc := "()V" } : Jvm.MethodName) object_method_1_code (1 : Nat) (Option.none : Option Jvm.ClassFile.FieldType)).before args0 about1 = true := code_word (m := ⟨0, 0⟩) (meth := k0m0) (c := k0c0) (by decide +kernel) rfl rfl rfl (by decide +kernel)
set_option maxRecDepth 65536 in
theorem w_c3 : (Jvm.Cond.code ({ cls := "com/example/gauge_links/gaugelinks/rank/SplitMix64", name := "next", desc := "()J" } : Jvm.MethodName) prog_35_method_2_code (3 : Nat) (Option.some Jvm.ClassFile.FieldType.long)).before args0 about1 = true := code_word (m := ⟨2, 1⟩) (meth := k2m1) (c := k2c1) (by decide +kernel) rfl rfl rfl (by decide +kernel)
set_option maxRecDepth 65536 in
theorem w_c4 : (Jvm.Cond.code ({ cls := "com/example/gauge_links/gaugelinks/rank/SplitMix64NextPinLaw", name := "inverse", desc := "(J)J" } : Jvm.MethodName) method_2_code (4 : Nat) (Option.some Jvm.ClassFile.FieldType.long)).before args0 about1 = true := code_word (m := ⟨1, 1⟩) (meth := k1m1) (c := k1c1) (by decide +kernel) rfl rfl rfl (by decide +kernel)
set_option maxRecDepth 65536 in
theorem w_c5 : (Jvm.Cond.code ({ cls := "com/example/gauge_links/gaugelinks/rank/SplitMix64NextPinLaw", name := "unmix", desc := "(J)J" } : Jvm.MethodName) method_3_code (4 : Nat) (Option.some Jvm.ClassFile.FieldType.long)).before args0 about1 = true := code_word (m := ⟨1, 2⟩) (meth := k1m2) (c := k1c2) (by decide +kernel) rfl rfl rfl (by decide +kernel)
def codes1 : List Jvm.Cond := [Jvm.Cond.code x code maxLocals ret, Jvm.Cond.code ({ cls := "com/example/gauge_links/gaugelinks/rank/SplitMix64", name := "<init>", desc := "(J)V" } : Jvm.MethodName) prog_35_method_1_code (3 : Nat) (Option.none : Option Jvm.ClassFile.FieldType), Jvm.Cond.code ({ cls := "java/lang/Object", name := "<init>", desc := "()V" } : Jvm.MethodName) object_method_1_code (1 : Nat) (Option.none : Option Jvm.ClassFile.FieldType), Jvm.Cond.code ({ cls := "com/example/gauge_links/gaugelinks/rank/SplitMix64", name := "next", desc := "()J" } : Jvm.MethodName) prog_35_method_2_code (3 : Nat) (Option.some Jvm.ClassFile.FieldType.long), Jvm.Cond.code ({ cls := "com/example/gauge_links/gaugelinks/rank/SplitMix64NextPinLaw", name := "inverse", desc := "(J)J" } : Jvm.MethodName) method_2_code (4 : Nat) (Option.some Jvm.ClassFile.FieldType.long), Jvm.Cond.code ({ cls := "com/example/gauge_links/gaugelinks/rank/SplitMix64NextPinLaw", name := "unmix", desc := "(J)J" } : Jvm.MethodName) method_3_code (4 : Nat) (Option.some Jvm.ClassFile.FieldType.long)]
set_option maxRecDepth 65536 in
theorem codes_eq : words1.filter isCode = codes1 := rfl
theorem w_codes : ∀ c ∈ words1.filter isCode, c.before args0 about1 = true := by
  rw [codes_eq]
  intro c hc
  simp only [codes1, List.mem_cons, List.not_mem_nil, or_false] at hc
  rcases hc with rfl | rfl | rfl | rfl | rfl | rfl
  · exact w_c0
  · exact w_c1
  · exact w_c2
  · exact w_c3
  · exact w_c4
  · exact w_c5
set_option maxRecDepth 65536 in
theorem w_t1 : (words1.take 24).all (fun c => isCode c || c.before args0 about1) = true := by decide +kernel
set_option maxRecDepth 65536 in
theorem w_t2 : (words1.drop 24).all (fun c => isCode c || c.before args0 about1) = true := by decide +kernel
theorem w_tables : (allAtoms (Jvm.Cond.code x code maxLocals ret :: tables_1)).before args0 about1 = true := by
  rw [allAtoms_all]
  show words1.all (fun c => c.before args0 about1) = true
  refine all_split ?_ w_codes
  rw [← List.take_append_drop 24 words1, List.all_append, w_t1, w_t2]
  rfl
set_option maxRecDepth 65536 in
theorem w_case : (Jvm.Cond.and given_1 narrow_1).before args0 about1 = true := by decide +kernel
theorem w_applies : (headSpec (Jvm.Cond.code x code maxLocals ret :: tables_1) room_1).applies x e0.platform about1 = true :=
  (Spec.applies_iff w_frames).mpr ⟨w_running, w_runnable, w_alone, w_named, w_hears, w_ripe, w_room, w_tables⟩
theorem atStart : AtStart classFile x code maxLocals ret World_1 tables_1 room_1 Calls_1 rest_1 Pre_1 launch0 p0 e0 about1 theMethod args0 below0 :=
  ⟨lists_1, trivial, launch0.admits_env _ _ _, launch0.least_env, fairChoices_fair.cas, fairChoices_fair.clock, w_frames, w_args, w_heap, w_applies, trivial, trivial, w_case⟩
end start1
theorem witness_1 : WitnessClaimed_1 := ⟨start1.p0, start1.e0, start1.about1, start1.theMethod, start1.args0, start1.below0, start1.atStart⟩
end Jvm.Pilot.@@N@@
