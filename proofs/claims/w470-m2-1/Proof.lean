import JvmDerived
import JvmDerived.Pilot.@@N@@Statement
import JvmDerived.Pilot.@@N@@Code
set_option linter.unusedVariables false
set_option linter.unusedSimpArgs false
namespace Jvm.JW
open Sem ClassFile Op Lib Jvm.Stand Jvm.Free Jvm.LawKit Jvm.RoadKit
/-! The walk in continuation form: D holds of a machine state if the run from it ends as the contract says. -/
def Dn (p : Program) (e : Env) (below : List Frame) (s : State) (Q : Option Value → Heap → List Loc → Prop) (k n : Nat) (S : State) : Prop :=
  ∃ s₂ o, Steps p.tables e below S s₂ ∧ s₂.status = .running ∧ Ended s₂ below o ∧ ∃ v L, o = .returned v ∧ Q v s₂.heap L ∧ FrameEnd s o s₂ L k n
def Adv (p : Program) (e : Env) (below : List Frame) (D : State → Prop) : Prop :=
  ∀ {S S' : State}, (∀ {t : State}, Steps p.tables e below S' t → Steps p.tables e below S t) → D S' → D S
theorem Adv.dn {p : Program} {e : Env} {below : List Frame} {s : State} {Q : Option Value → Heap → List Loc → Prop} {k n : Nat} : Adv p e below (Dn p e below s Q k n) := by
  intro S S' h d
  obtain ⟨s2, o, h1, h2⟩ := d
  exact ⟨s2, o, h h1, h2⟩
theorem Adv.tr {p : Program} {e : Env} {below : List Frame} {D : State → Prop} (A : Adv p e below D) {S S' : State} (h : Steps p.tables e below S S') (d : D S') : D S := A (fun k => h.trans k) d
abbrev JMet (l : Launch) (Z : State) (y : MethodName) (bytes : ByteArray) (maxL : Nat) (ret : Option FieldType) (ws : List Cond) (rm : Room) (as' : Array Value) (h0 : Heap) (Q : Option Value → Heap → List Loc → Prop) : Prop :=
  MetFree l y (head1 (Cond.code y bytes maxL ret :: ws) rm) (fun a U => a = as' ∧ Z.Warmed39 U.vm ∧ U.heap = h0) (fun _ _ _ _ _ => True) (fun _ U o U' => ∃ v L, o = .returned v ∧ Q v U'.heap L ∧ FrameEnd U o U' L rm.cells rm.slots)
/-- a body that returns r and leaves the heap as it was -/
def QP (r : Value) (h0 : Heap) (n0 : Nat) (v : Option Value) (h : Heap) (L : List Loc) : Prop := v = some r ∧ Fr n0 L ∧ h = h0
/-- the law: it returns 1; nothing that stood at the start is written -/
def QL (n0 : Nat) (v : Option Value) (h : Heap) (L : List Loc) : Prop := v = some (.int 1) ∧ Fr n0 L
section Kit
variable {p : Program} {l : Launch} {e : Env} {R : Room} {s : State} {m : MethodId} {args : Array Value} {below : List Frame} {meth : Method} {c : Code} {T : State} {locs : List Loc} {cells slots : Nat} {Z : State} {a0 : Array Value} {h : Heap} {D : State → Prop}
theorem ret (X : Stand p l e R s m args below meth c T locs cells slots) (hlk : meth.locks = false) {Q : Option Value → Heap → List Loc → Prop} {k n : Nat} {S : State} {v : Option Value} (hv : meth.sig.returnType = none → v = none)
    (hst : ∀ fs, (∀ (f : JFrame) (acts : List Action), f.method = m → f.locked = none → f.entered = [] → (doReturn e (T.setTop f) acts v).1 = T.setFrames fs) → Steps p.tables e below S (T.setFrames fs))
    {hh : Heap} (eT : T.heap = hh) (hq : Q v hh locs) (hk : cells ≤ k) (hn : slots ≤ n) : Dn p e below s Q k n S := by
  subst eT
  obtain ⟨fs, hr, hrun, hended, hW, hsame⟩ := X.leave (v := v) hv hlk
  exact ⟨_, _, hst fs hr, hrun, hended, _, _, rfl, hq, ⟨_, rfl⟩, hW, hsame.mono hk hn⟩
theorem body {y : MethodName} {bytes : ByteArray} {maxL : Nat} {rt : Option FieldType} {ws : List Cond} {rm : Room} {as' : Array Value} {h0 : Heap} {Q : Option Value → Heap → List Loc → Prop} (Ls : Array Slot) (hpl : plainFor y = true) (hef : ∀ m, entryFrame m as' maxL = mkF m 0 Ls [])
    (bd : ∀ (p : Program) (e : Env) (s : State) (m : MethodId) (below : List Frame) (meth : Method) (c : Code) (T0 : State) (D : State → Prop), Adv p e below D → (∀ S, Dn p e below s Q rm.cells rm.slots S → D S) → Stand p l e rm s m as' below meth c T0 [] 0 0 → p.tables.exec = Jvm.exec → Z.Warmed39 s.vm → c.code = bytes → c.maxLocals = maxL → s.vm.findClass y.cls = some m.cls → meth.name = y.name → meth.sig.returnType = rt → meth.locks = false → T0.heap = h0 → D (T0.setTop (mkF m 0 Ls []))) :
    JMet l Z y bytes maxL rt ws rm as' h0 Q := by
  refine MetFree.of_bodySF hpl hisR ?_
  intro p e s m args below meth c s₁ Bd hml hP hK
  obtain ⟨rfl, hZ, hh⟩ := hP
  have q := bd p e s m below meth c s₁ (Dn p e below s Q rm.cells rm.slots) Adv.dn (fun _ d => d) (Stand.of_body Bd) Bd.exec hZ Bd.bytes hml (findClass_of_methodNamed Bd.named) (name_of_methodNamed Bd.named Bd.method).1 Bd.returns Bd.notSynchronized (by rw [← hh, Bd.state]; rfl)
  rw [← hef m] at q
  exact q
theorem Adv.callS (A : Adv p e below D) (X : Stand p l e R s m args below meth c T locs cells slots) (hx : p.tables.exec = Jvm.exec) (hZ : Z.Warmed39 s.vm) {own : String} {index : Nat} {y : MethodName} {bytes : ByteArray} {maxL : Nat} {rt : Option FieldType} {rm : Room} {as' : Array Value} {Q : Option Value → Heap → List Loc → Prop}
    (hown : s.vm.findClass own = some m.cls) (w1 : (Cond.methodLink own index y).before a0 Z = true) (w2 : (Cond.static y).before a0 Z = true) (w3 : (Cond.initialized y.cls).before a0 Z = true) (w4 : (Cond.code y bytes maxL rt).before a0 Z = true) (eT : T.heap = h)
    (hM : JMet l Z y bytes maxL rt [] rm as' h Q) (W : Nat) {g : JFrame} (hg : g.method = m) (hsz : g.locals.size = c.maxLocals) (argsL rest : List Value) (has : as' = argsL.toArray)
    (hlen : ∀ sig, parseMethodDescriptor y.desc = some sig → argsL.length = sig.parameters.length) (hstack : g.stack = argsL.reverse ++ rest) (hW : 2 * g.monitorRoom + (rest.map fun v => v.category).sum ≤ W)
    (hd : decode c.code g.pc = .ok (.invokestatic index, 3)) (hy : y.cls ≠ "java/lang/invoke/MethodHandle" ∧ y.cls ≠ "java/lang/invoke/VarHandle") (hf : rm.frames + 1 ≤ R.frames) (hl : W + (maxL + 11) + rm.locals ≤ R.locals) (hc : cells + rm.cells ≤ R.cells) (hs : slots + rm.slots ≤ R.slots)
    (k : ∀ (T' : State) (L' : List Loc) (v : Option Value), Stand p l e R s m args below meth c T' (locs ++ L') (cells + rm.cells) (slots + rm.slots) → Q v T'.heap L' → D (T'.setTop { g with pc := g.pc + 3, stack := v.toList ++ rest })) : D (T.setTop g) := by
  subst has
  obtain ⟨v, _, ⟨T', L, k', n'⟩, -, X', ⟨Lc, hQ, l', y', z'⟩, st⟩ := Jvm.LawKit.callS X hx (y := y) hown (mvT hZ w1) (mvT hZ w2) (mvT hZ w3) (mvT hZ w4) hy (backOf (W := W) hM hZ w4 w3 hf hl) (g := g) hg hsz (argsL := argsL) (rest := rest) hlen hstack hW hd (fun _ _ => ⟨rfl, eT, hc, hs⟩)
  dsimp only [Pt.U, Pt.locs, Pt.cells, Pt.slots] at X' l' y' z' st hQ
  subst l' y' z'
  exact A (fun q => st _ q) (k T' Lc v X' hQ)
theorem Adv.callI (A : Adv p e below D) (X : Stand p l e R s m args below meth c T locs cells slots) (hx : p.tables.exec = Jvm.exec) (hZ : Z.Warmed39 s.vm) {own : String} {index : Nat} {y : MethodName} {bytes : ByteArray} {maxL : Nat} {rm : Room} {as' : Array Value} {Q : Option Value → Heap → List Loc → Prop}
    (hown : s.vm.findClass own = some m.cls) (hi : y.name = "<init>") (w1 : (Cond.methodLink own index y).before a0 Z = true) (w2 : (Cond.instanceMethod y).before a0 Z = true) (w3 : (Cond.initialized y.cls).before a0 Z = true) (w4 : (Cond.code y bytes maxL none).before a0 Z = true) (eT : T.heap = h)
    (hM : JMet l Z y bytes maxL none [] rm as' h Q) (W : Nat) {g : JFrame} (hg : g.method = m) (hsz : g.locals.size = c.maxLocals) (a : Addr) (argsL rest : List Value) (has : as' = (.ref a :: argsL).toArray)
    (hlen : ∀ sig, parseMethodDescriptor y.desc = some sig → argsL.length = sig.parameters.length) (hstack : g.stack = argsL.reverse ++ .ref a :: rest) (hW : 2 * g.monitorRoom + (rest.map fun v => v.category).sum ≤ W)
    (hd : decode c.code g.pc = .ok (.invokespecial index, 3)) (hy : y.cls ≠ "java/lang/invoke/MethodHandle" ∧ y.cls ≠ "java/lang/invoke/VarHandle") (hf : rm.frames + 1 ≤ R.frames) (hl : W + (maxL + 11) + rm.locals ≤ R.locals) (hc : cells + rm.cells ≤ R.cells) (hs : slots + rm.slots ≤ R.slots)
    (k : ∀ (T' : State) (L' : List Loc) (v : Option Value), Stand p l e R s m args below meth c T' (locs ++ L') (cells + rm.cells) (slots + rm.slots) → Q v T'.heap L' → D (T'.setTop { g with pc := g.pc + 3, stack := v.toList ++ rest })) : D (T.setTop g) := by
  subst has
  obtain ⟨v, _, ⟨T', L, k', n'⟩, -, X', ⟨Lc, hQ, l', y', z'⟩, st⟩ := X.specialBack hx (y := y) hi hown (mvT hZ w1) (mvT hZ w2) (mvT hZ w4) hy (backOf (W := W) hM hZ w4 w3 hf hl) (g := g) hg hsz (Steps.refl _) (a := a) (argsL := argsL) (rest := rest) hlen hstack hW hd (fun _ _ => ⟨rfl, eT, hc, hs⟩)
  dsimp only [Pt.U, Pt.locs, Pt.cells, Pt.slots] at X' l' y' z' st hQ
  subst l' y' z'
  exact A.tr st (k T' Lc v X' hQ)
theorem Adv.callV (A : Adv p e below D) (X : Stand p l e R s m args below meth c T locs cells slots) (hx : p.tables.exec = Jvm.exec) (hZ : Z.Warmed39 s.vm) {own C : String} {index : Nat} {y z : MethodName} {bytes : ByteArray} {maxL : Nat} {rt : Option FieldType} {rm : Room} {as' : Array Value} {Q : Option Value → Heap → List Loc → Prop} {a : Addr}
    (hown : s.vm.findClass own = some m.cls) (w1 : (Cond.methodLink own index y).before a0 Z = true) (w2 : (Cond.declares y).before a0 Z = true) (nf : NotFace s y) (w5 : (Cond.selects C y z).before a0 Z = true) (w6 : (Cond.instanceMethod z).before a0 Z = true) (w3 : (Cond.initialized z.cls).before a0 Z = true) (w4 : (Cond.code z bytes maxL rt).before a0 Z = true) (eT : T.heap = h) (E : Exa Z h a C)
    (hM : JMet l Z z bytes maxL rt [] rm as' h Q) (W : Nat) {g : JFrame} (hg : g.method = m) (hsz : g.locals.size = c.maxLocals) (argsL rest : List Value) (has : as' = (.ref a :: argsL).toArray)
    (hlen : ∀ sig, parseMethodDescriptor y.desc = some sig → argsL.length = sig.parameters.length) (hstack : g.stack = argsL.reverse ++ .ref a :: rest) (hW : 2 * g.monitorRoom + (rest.map fun v => v.category).sum ≤ W)
    (hd : decode c.code g.pc = .ok (.invokevirtual index, 3)) (hy : y.cls ≠ "java/lang/invoke/MethodHandle" ∧ y.cls ≠ "java/lang/invoke/VarHandle") (hf : rm.frames + 1 ≤ R.frames) (hl : W + (maxL + 11) + rm.locals ≤ R.locals) (hc : cells + rm.cells ≤ R.cells) (hs : slots + rm.slots ≤ R.slots)
    (k : ∀ (T' : State) (L' : List Loc) (v : Option Value), Stand p l e R s m args below meth c T' (locs ++ L') (cells + rm.cells) (slots + rm.slots) → Q v T'.heap L' → D (T'.setTop { g with pc := g.pc + 3, stack := v.toList ++ rest })) : D (T.setTop g) := by
  subst has
  obtain ⟨cq, kq, qa, qb, qc⟩ := isOf hZ eT E
  obtain ⟨v, _, ⟨T', L, k', n'⟩, -, X', ⟨Lc, hQ, l', y', z'⟩, st⟩ := X.virtualBack hx (y := y) (z := z) hown (mvT hZ w1) (mvT hZ w2) nf (mvT hZ w5) (mvT hZ w6) hy (backOf (W := W) hM hZ w4 w3 hf hl) qa qc (g := g) hg hsz (Steps.refl _) (argsL := argsL) (rest := rest) hlen hstack hW hd (fun _ _ => ⟨rfl, eT, hc, hs⟩)
  dsimp only [Pt.U, Pt.locs, Pt.cells, Pt.slots] at X' l' y' z' st hQ
  subst l' y' z'
  exact A.tr st (k T' Lc v X' hQ)
theorem Adv.callU (A : Adv p e below D) (X : Stand p l e R s m args below meth c T locs cells slots) (hx : p.tables.exec = Jvm.exec) (hZ : Z.Warmed39 s.vm) {own C owner : String} {index : Nat} {y z : MethodName} {bytes : ByteArray} {maxL : Nat} {rt : Option FieldType} {rm : Room} {as' : Array Value} {Q : Option Value → Heap → List Loc → Prop} {a : Addr}
    (hown : s.vm.findClass own = some m.cls) (w1 : (Cond.methodLink own index y).before a0 Z = true) (w7 : (Cond.sameMethod y.cls owner y.name y.desc).before a0 Z = true) (w2 : (Cond.declares ⟨owner, y.name, y.desc⟩).before a0 Z = true) (w5 : (Cond.selects C y z).before a0 Z = true) (w6 : (Cond.instanceMethod z).before a0 Z = true) (w3 : (Cond.initialized z.cls).before a0 Z = true) (w4 : (Cond.code z bytes maxL rt).before a0 Z = true) (eT : T.heap = h) (E : Exa Z h a C)
    (hM : JMet l Z z bytes maxL rt [] rm as' h Q) (W : Nat) {g : JFrame} (hg : g.method = m) (hsz : g.locals.size = c.maxLocals) (argsL rest : List Value) (has : as' = (.ref a :: argsL).toArray)
    (hlen : ∀ sig, parseMethodDescriptor y.desc = some sig → argsL.length = sig.parameters.length) (hstack : g.stack = argsL.reverse ++ .ref a :: rest) (hW : 2 * g.monitorRoom + (rest.map fun v => v.category).sum ≤ W)
    (hd : decode c.code g.pc = .ok (.invokevirtual index, 3)) (hy : owner ≠ "java/lang/invoke/MethodHandle" ∧ owner ≠ "java/lang/invoke/VarHandle") (hf : rm.frames + 1 ≤ R.frames) (hl : W + (maxL + 11) + rm.locals ≤ R.locals) (hc : cells + rm.cells ≤ R.cells) (hs : slots + rm.slots ≤ R.slots)
    (k : ∀ (T' : State) (L' : List Loc) (v : Option Value), Stand p l e R s m args below meth c T' (locs ++ L') (cells + rm.cells) (slots + rm.slots) → Q v T'.heap L' → D (T'.setTop { g with pc := g.pc + 3, stack := v.toList ++ rest })) : D (T.setTop g) := by
  subst has
  obtain ⟨cq, kq, qa, qb, qc⟩ := isOf hZ eT E
  obtain ⟨v, _, ⟨T', L, k', n'⟩, -, X', ⟨Lc, hQ, l', y', z'⟩, st⟩ := X.virtualBackUp hx (x := y) (y := z) (owner := owner) hown (mvT hZ w1) (mvT hZ w7) (mvT hZ w2) hy (mvT hZ w5) (mvT hZ w6) (backOf (W := W) hM hZ w4 w3 hf hl) qa qc (g := g) hg hsz (Steps.refl _) (argsL := argsL) (rest := rest) hlen hstack hW hd (fun _ _ => ⟨rfl, eT, hc, hs⟩)
  dsimp only [Pt.U, Pt.locs, Pt.cells, Pt.slots] at X' l' y' z' st hQ
  subst l' y' z'
  exact A.tr st (k T' Lc v X' hQ)
theorem Adv.callP (A : Adv p e below D) (X : Stand p l e R s m args below meth c T locs cells slots) (hx : p.tables.exec = Jvm.exec) (hZ : Z.Warmed39 s.vm) {own C : String} {index kn : Nat} {y : MethodName} {bytes : ByteArray} {maxL : Nat} {rt : Option FieldType} {rm : Room} {as' : Array Value} {Q : Option Value → Heap → List Loc → Prop} {a : Addr}
    (hown : s.vm.findClass own = some m.cls) (w1 : (Cond.methodLink own index y).before a0 Z = true) (w2 : (Cond.instanceMethod y).before a0 Z = true) (wi : (Cond.instantiable y.cls kn).before a0 Z = true) (w5 : (Cond.privateMethod y).before a0 Z = true) (w3 : (Cond.initialized y.cls).before a0 Z = true) (w4 : (Cond.code y bytes maxL rt).before a0 Z = true) (eT : T.heap = h) (E : Exa Z h a C)
    (hM : JMet l Z y bytes maxL rt [] rm as' h Q) (W : Nat) {g : JFrame} (hg : g.method = m) (hsz : g.locals.size = c.maxLocals) (argsL rest : List Value) (has : as' = (.ref a :: argsL).toArray)
    (hlen : ∀ sig, parseMethodDescriptor y.desc = some sig → argsL.length = sig.parameters.length) (hstack : g.stack = argsL.reverse ++ .ref a :: rest) (hW : 2 * g.monitorRoom + (rest.map fun v => v.category).sum ≤ W)
    (hd : decode c.code g.pc = .ok (.invokevirtual index, 3)) (hy : y.cls ≠ "java/lang/invoke/MethodHandle" ∧ y.cls ≠ "java/lang/invoke/VarHandle") (hf : rm.frames + 1 ≤ R.frames) (hl : W + (maxL + 11) + rm.locals ≤ R.locals) (hc : cells + rm.cells ≤ R.cells) (hs : slots + rm.slots ≤ R.slots)
    (k : ∀ (T' : State) (L' : List Loc) (v : Option Value), Stand p l e R s m args below meth c T' (locs ++ L') (cells + rm.cells) (slots + rm.slots) → Q v T'.heap L' → D (T'.setTop { g with pc := g.pc + 3, stack := v.toList ++ rest })) : D (T.setTop g) := by
  subst has
  obtain ⟨ce, hce, hob⟩ := E.cell
  have hpriv : s.PrivateAt y := Cond.privateMethod_at (mvP hZ w5 (args := #[]))
  have hins : (Cond.instanceMethod y).before args s = true := mvT hZ w2
  have hwi : (Cond.instantiable y.cls kn).before args s = true := mvT hZ wi
  obtain ⟨ck, kk, c1, c2, -, c4, -⟩ := Cond.instantiable_spec hwi
  have hsel := selects_self_of_private c1 c2 (Bool.or_eq_false_iff.mp c4).1 hpriv hins hy
  obtain ⟨v, _, ⟨T', L, k', n'⟩, -, X', ⟨Lc, hQ, l', y', z'⟩, st⟩ := X.privateBack hx (y := y) hown (mvT hZ w1) hins hsel hpriv (mvT hZ w4) hy (backOf (W := W) hM hZ w4 w3 hf hl) (g := g) hg hsz (Steps.refl _) (a := a) (cell := ce) (by rw [eT]; exact hce) hob (argsL := argsL) (rest := rest) hlen hstack hW hd (fun _ _ => ⟨rfl, eT, hc, hs⟩)
  dsimp only [Pt.U, Pt.locs, Pt.cells, Pt.slots] at X' l' y' z' st hQ
  subst l' y' z'
  exact A.tr st (k T' Lc v X' hQ)
end Kit
/-! ### arrays by a function of the place -/
section Arrays
variable {p : Program} {l : Launch} {e : Env} {R : Room} {s : State} {m : MethodId} {args : Array Value} {below : List Frame} {meth : Method} {c : Code} {T : State} {locs : List Loc} {cells slots : Nat} {Z : State} {a0 : Array Value} {h h' : Heap} {D : State → Prop} {a b : Addr} {ty : FieldType} {n : Nat} {f : Nat → Int32} {fJ : Nat → Int64} {sl : Nat} {v : Value} {ws : List Addr}
def ArI (Z : State) (h : Heap) (a : Addr) (ty : FieldType) (n : Nat) (f : Nat → Int32) : Prop :=
  n < 2147483648 ∧ ∃ c : Cell, Arr Z h a c ty ∧ c.slots.size = n ∧ ∀ i, i < n → c.slots[i]? = some (.int (f i))
def ArJ (Z : State) (h : Heap) (a : Addr) (n : Nat) (f : Nat → Int64) : Prop :=
  n < 2147483648 ∧ ∃ c : Cell, Arr Z h a c .long ∧ c.slots.size = n ∧ ∀ i, i < n → c.slots[i]? = some (.long (f i))
theorem ArI.lt (F : ArI Z h a ty n f) : a < h.size := by obtain ⟨-, c, A, -⟩ := F; exact A.lt
theorem ArI.ext (F : ArI Z h a ty n f) (E : Ext h h') : ArI Z h' a ty n f := by obtain ⟨q, c, A, r⟩ := F; exact ⟨q, c, A.ext E, r⟩
theorem ArI.other (F : ArI Z h b ty n f) (W : Wr h h' a sl v) (q : b ≠ a) : ArI Z h' b ty n f := by obtain ⟨z, c, A, r⟩ := F; exact ⟨z, c, A.other W q, r⟩
theorem ArI.keep (F : ArI Z h a ty n f) (K : Keep h h' ws) (q : a ∉ ws) : ArI Z h' a ty n f := by obtain ⟨z, c, A, r⟩ := F; exact ⟨z, c, ⟨K.2.1 a c A.1 q, A.2⟩, r⟩
theorem ArI.eqf {g : Nat → Int32} (F : ArI Z h a ty n f) (q : ∀ i, i < n → f i = g i) : ArI Z h a ty n g := by
  obtain ⟨z, c, A, r, H⟩ := F; exact ⟨z, c, A, r, fun i hi => by rw [← q i hi]; exact H i hi⟩
theorem ArJ.lt (F : ArJ Z h a n fJ) : a < h.size := by obtain ⟨-, c, A, -⟩ := F; exact A.lt
theorem ArJ.ext (F : ArJ Z h a n fJ) (E : Ext h h') : ArJ Z h' a n fJ := by obtain ⟨q, c, A, r⟩ := F; exact ⟨q, c, A.ext E, r⟩
theorem ArJ.other (F : ArJ Z h b n fJ) (W : Wr h h' a sl v) (q : b ≠ a) : ArJ Z h' b n fJ := by obtain ⟨z, c, A, r⟩ := F; exact ⟨z, c, A.other W q, r⟩
theorem ArJ.keep (F : ArJ Z h a n fJ) (K : Keep h h' ws) (q : a ∉ ws) : ArJ Z h' a n fJ := by obtain ⟨z, c, A, r⟩ := F; exact ⟨z, c, ⟨K.2.1 a c A.1 q, A.2⟩, r⟩
theorem ArJ.eqf {g : Nat → Int64} (F : ArJ Z h a n fJ) (q : ∀ i, i < n → fJ i = g i) : ArJ Z h a n g := by
  obtain ⟨z, c, A, r, H⟩ := F; exact ⟨z, c, A, r, fun i hi => by rw [← q i hi]; exact H i hi⟩
theorem ne_ari {C : String} {k : Nat} (F : Exa Z h a C) (wi : (Cond.instantiable C k).before a0 Z = true) (G : ArI Z h b ty n f) : a ≠ b := by obtain ⟨-, c, A, -⟩ := G; exact ne_arr F wi A
theorem ne_arj {C : String} {k : Nat} (F : Exa Z h a C) (wi : (Cond.instantiable C k).before a0 Z = true) (G : ArJ Z h b n fJ) : a ≠ b := by obtain ⟨-, c, A, -⟩ := G; exact ne_arr F wi A
theorem ne_arr2 {c1 c2 : Cell} {t1 t2 : FieldType} (F : Arr Z h a c1 t1) (G : Arr Z h b c2 t2) (hn : t1 ≠ t2) : a ≠ b := fun q => by
  subst q
  cases F.1.symm.trans G.1
  obtain ⟨-, k1, j1, comp1, j2⟩ := F.2.1
  obtain ⟨-, k2, i1, comp2, i2⟩ := G.2.1
  cases j1.symm.trans i1
  rw [j2] at i2
  injection i2 with _ q2
  exact hn q2
theorem ne_aij {n' : Nat} (F : ArI Z h a ty n f) (G : ArJ Z h b n' fJ) (hn : ty ≠ .long) : a ≠ b := by obtain ⟨-, c, A, -⟩ := F; obtain ⟨-, c', A', -⟩ := G; exact ne_arr2 A A' hn
theorem to_nat {j : Int32} {k : Nat} (hk : j.toInt = k) : j.toNatClampNeg = k := by simp only [Int32.toNatClampNeg, hk, Int.toNat_natCast]
theorem inb {cl : Cell} {j : Int32} {k : Nat} (hk : j.toInt = k) (hkn : k < n) (hs : cl.slots.size = n) : ¬ (j < 0 ∨ cl.slots.size ≤ j.toNatClampNeg) := by
  rw [to_nat hk, hs, Int32.lt_iff_toInt_lt, hk, show (0 : Int32).toInt = 0 from rfl]; omega
theorem ixadd {x d : Int32} {k j : Nat} (hx : x.toInt = k) (hd : d.toInt = j) (h : k + j < 2147483648) : (x + d).toInt = ((k + j : Nat) : Int) := by
  have h2 := c_iadd x d
  have h3 := rng32 (x + d)
  omega
theorem ArI.mk {k : ClassId} {z : Int32} (A : Arr Z h a (newA k ty z) ty) (hn : z.toInt = n) (hd : defaultValue ty = .int 0) : ArI Z h a ty n (fun _ => 0) := by
  have hz := to_nat hn
  refine ⟨?_, _, A, by rw [sz_new, hz], fun i hi => ?_⟩
  · have := Int32.toInt_lt z; omega
  · simp [newA, hz, hi, hd]
theorem ArJ.mk {k : ClassId} {z : Int32} (A : Arr Z h a (newA k .long z) .long) (hn : z.toInt = n) : ArJ Z h a n (fun _ => 0) := by
  have hz := to_nat hn
  refine ⟨?_, _, A, by rw [sz_new, hz], fun i hi => ?_⟩
  · have := Int32.toInt_lt z; omega
  · simp [newA, hz, hi, defaultValue]
theorem set_at {cl : Cell} {i k : Nat} (hk : k < cl.slots.size) : (cl.setSlot k v).slots[i]? = if i = k then some v else cl.slots[i]? := by
  simp only [Cell.setSlot, Array.getElem?_setIfInBounds]
  by_cases q : i = k
  · subst q; simp [hk]
  · simp [q, Ne.symm q]
theorem ArI.set {x : Int32} {k : Nat} (F : ArI Z h a ty n f) (W : Wr h h' a k (.int x)) (hk : k < n) : ArI Z h' a ty n (fun i => if i = k then x else f i) := by
  obtain ⟨z, c, A, r, H⟩ := F
  refine ⟨z, _, A.same W, by rw [sz_set, r], fun i hi => ?_⟩
  rw [set_at (by omega)]
  by_cases q : i = k
  · simp [q]
  · simp [q, H i hi]
theorem ArJ.set {x : Int64} {k : Nat} (F : ArJ Z h a n fJ) (W : Wr h h' a k (.long x)) (hk : k < n) : ArJ Z h' a n (fun i => if i = k then x else fJ i) := by
  obtain ⟨z, c, A, r, H⟩ := F
  refine ⟨z, _, A.same W, by rw [sz_set, r], fun i hi => ?_⟩
  rw [set_at (by omega)]
  by_cases q : i = k
  · simp [q]
  · simp [q, H i hi]
theorem Adv.ldI (A : Adv p e below D) (X : Stand p l e R s m args below meth c T locs cells slots) (hx : p.tables.exec = Jvm.exec) (hZ : Z.Warmed39 s.vm) (eT : T.heap = h) (F : ArI Z h a .int n f) {j : Int32} {k : Nat} (hk : j.toInt = k) (hkn : k < n) {g : JFrame} (hg : g.method = m) {rest : List Value} (hs : g.stack = .int j :: .ref a :: rest) (hd : decode c.code g.pc = .ok (.iaload, 1))
    (kk : D (T.setTop { g with pc := g.pc + 1, stack := .int (f k) :: rest })) : D (T.setTop g) := by
  obtain ⟨-, cl, Ar, r, H⟩ := F
  exact A (X.iaload hx (j := j) (v := .int (f k)) (by rw [eT]; exact Ar.1) (State.isArrayOf_alike hZ.alike Ar.2.1) Ar.2.2 (inb hk hkn r) (by rw [to_nat hk]; exact H k hkn) (g := g) hg hs hd _) kk
theorem Adv.ldB (A : Adv p e below D) (X : Stand p l e R s m args below meth c T locs cells slots) (hx : p.tables.exec = Jvm.exec) (hZ : Z.Warmed39 s.vm) (eT : T.heap = h) (F : ArI Z h a .byte n f) {j : Int32} {k : Nat} (hk : j.toInt = k) (hkn : k < n) {g : JFrame} (hg : g.method = m) {rest : List Value} (hs : g.stack = .int j :: .ref a :: rest) (hd : decode c.code g.pc = .ok (.baload, 1))
    (kk : D (T.setTop { g with pc := g.pc + 1, stack := .int (f k) :: rest })) : D (T.setTop g) := by
  obtain ⟨-, cl, Ar, r, H⟩ := F
  exact A (X.baloadBytes hx (j := j) (v := .int (f k)) (by rw [eT]; exact Ar.1) (State.isArrayOf_alike hZ.alike Ar.2.1) Ar.2.2 (inb hk hkn r) (by rw [to_nat hk]; exact H k hkn) (g := g) hg hs hd _) kk
theorem Adv.ldJ (A : Adv p e below D) (X : Stand p l e R s m args below meth c T locs cells slots) (hx : p.tables.exec = Jvm.exec) (hZ : Z.Warmed39 s.vm) (eT : T.heap = h) (F : ArJ Z h a n fJ) {j : Int32} {k : Nat} (hk : j.toInt = k) (hkn : k < n) {g : JFrame} (hg : g.method = m) {rest : List Value} (hs : g.stack = .int j :: .ref a :: rest) (hd : decode c.code g.pc = .ok (.laload, 1))
    (kk : D (T.setTop { g with pc := g.pc + 1, stack := .long (fJ k) :: rest })) : D (T.setTop g) := by
  obtain ⟨-, cl, Ar, r, H⟩ := F
  exact A (X.laload hx (j := j) (v := .long (fJ k)) (by rw [eT]; exact Ar.1) (State.isArrayOf_alike hZ.alike Ar.2.1) Ar.2.2 (inb hk hkn r) (by rw [to_nat hk]; exact H k hkn) (g := g) hg hs hd _) kk
theorem len32 {cl : Cell} (z : n < 2147483648) (r : cl.slots.size = n) : cl.slots.size.toInt32 = Int32.ofNat n   := by rw [r]
theorem Adv.lenI (A : Adv p e below D) (X : Stand p l e R s m args below meth c T locs cells slots) (hx : p.tables.exec = Jvm.exec) (hZ : Z.Warmed39 s.vm) (eT : T.heap = h) (F : ArI Z h a ty n f) {g : JFrame} (hg : g.method = m) {rest : List Value} (hs : g.stack = .ref a :: rest) (hd : decode c.code g.pc = .ok (.arraylength, 1))
    (kk : D (T.setTop { g with pc := g.pc + 1, stack := .int (Int32.ofNat n) :: rest })) : D (T.setTop g) := by
  obtain ⟨z, cl, Ar, r, H⟩ := F
  rw [← len32 z r] at kk
  exact A (X.arraylength hx (by rw [eT]; exact Ar.1) (State.isArrayOf_alike hZ.alike Ar.2.1) (g := g) hg hs hd _) kk
theorem Adv.lenJ (A : Adv p e below D) (X : Stand p l e R s m args below meth c T locs cells slots) (hx : p.tables.exec = Jvm.exec) (hZ : Z.Warmed39 s.vm) (eT : T.heap = h) (F : ArJ Z h a n fJ) {g : JFrame} (hg : g.method = m) {rest : List Value} (hs : g.stack = .ref a :: rest) (hd : decode c.code g.pc = .ok (.arraylength, 1))
    (kk : D (T.setTop { g with pc := g.pc + 1, stack := .int (Int32.ofNat n) :: rest })) : D (T.setTop g) := by
  obtain ⟨z, cl, Ar, r, H⟩ := F
  rw [← len32 z r] at kk
  exact A (X.arraylength hx (by rw [eT]; exact Ar.1) (State.isArrayOf_alike hZ.alike Ar.2.1) (g := g) hg hs hd _) kk
theorem Adv.stI (A : Adv p e below D) (X : Stand p l e R s m args below meth c T locs cells slots) (hx : p.tables.exec = Jvm.exec) (hZ : Z.Warmed39 s.vm) (eT : T.heap = h) (F : ArI Z h a .int n f) {j x : Int32} {k : Nat} (hk : j.toInt = k) (hkn : k < n) {g : JFrame} (hg : g.method = m) {rest : List Value} (hs : g.stack = .int x :: .int j :: .ref a :: rest) (hd : decode c.code g.pc = .ok (.iastore, 1))
    (kk : ∀ T' h', Stand p l e R s m args below meth c T' (locs ++ [⟨a, k⟩]) cells slots → T'.heap = h' → Wr h h' a k (.int x) → ArI Z h' a .int n (fun i => if i = k then x else f i) → D (T'.setTop { g with pc := g.pc + 1, stack := rest })) : D (T.setTop g) := by
  obtain ⟨cl, Ar, r, H⟩ := F.2
  obtain ⟨T', h', X', e', W, st⟩ := Jvm.RoadKit.stI X hx hZ eT Ar (j := j) (x := x) (inb hk hkn r) hg hs hd
  rw [to_nat hk] at X' W
  exact A (fun q => st _ q) (kk T' h' X' e' W (F.set W hkn))
theorem Adv.stB (A : Adv p e below D) (X : Stand p l e R s m args below meth c T locs cells slots) (hx : p.tables.exec = Jvm.exec) (hZ : Z.Warmed39 s.vm) (eT : T.heap = h) (F : ArI Z h a .byte n f) {j x : Int32} {k : Nat} (hk : j.toInt = k) (hkn : k < n) {g : JFrame} (hg : g.method = m) {rest : List Value} (hs : g.stack = .int x :: .int j :: .ref a :: rest) (hd : decode c.code g.pc = .ok (.bastore, 1))
    (kk : ∀ T' h', Stand p l e R s m args below meth c T' (locs ++ [⟨a, k⟩]) cells slots → T'.heap = h' → Wr h h' a k (.int x.toInt8.toInt32) → ArI Z h' a .byte n (fun i => if i = k then x.toInt8.toInt32 else f i) → D (T'.setTop { g with pc := g.pc + 1, stack := rest })) : D (T.setTop g) := by
  obtain ⟨cl, Ar, r, H⟩ := F.2
  obtain ⟨T', h', X', e', W, st⟩ := Jvm.RoadKit.stB X hx hZ eT Ar (j := j) (x := x) (inb hk hkn r) hg hs hd
  rw [to_nat hk] at X' W
  exact A (fun q => st _ q) (kk T' h' X' e' W (F.set W hkn))
theorem Adv.stJ (A : Adv p e below D) (X : Stand p l e R s m args below meth c T locs cells slots) (hx : p.tables.exec = Jvm.exec) (hZ : Z.Warmed39 s.vm) (eT : T.heap = h) (F : ArJ Z h a n fJ) {j : Int32} {x : Int64} {k : Nat} (hk : j.toInt = k) (hkn : k < n) {g : JFrame} (hg : g.method = m) {rest : List Value} (hs : g.stack = .long x :: .int j :: .ref a :: rest) (hd : decode c.code g.pc = .ok (.lastore, 1))
    (kk : ∀ T' h', Stand p l e R s m args below meth c T' (locs ++ [⟨a, k⟩]) cells slots → T'.heap = h' → Wr h h' a k (.long x) → ArJ Z h' a n (fun i => if i = k then x else fJ i) → D (T'.setTop { g with pc := g.pc + 1, stack := rest })) : D (T.setTop g) := by
  obtain ⟨cl, Ar, r, H⟩ := F.2
  obtain ⟨T', h', X', e', W, st⟩ := Jvm.RoadKit.stJ X hx hZ eT Ar (j := j) (x := x) (inb hk hkn r) hg hs hd
  rw [to_nat hk] at X' W
  exact A (fun q => st _ q) (kk T' h' X' e' W (F.set W hkn))
theorem Adv.newI (A : Adv p e below D) (X : Stand p l e R s m args below meth c T locs cells slots) (hx : p.tables.exec = Jvm.exec) (hZ : Z.Warmed39 s.vm) {aty : ArrayType} (w : (Cond.arrayClass (newarray.typeOf aty)).before a0 Z = true) (eT : T.heap = h) {z : Int32} (hz : z.toInt = n) (cap : Nat) (hcap : n ≤ cap) (hb : cap * 8 ≤ 536870912) (hdv : defaultValue (newarray.typeOf aty) = .int 0) {ad : String} (had : "[" ++ (newarray.typeOf aty).toString = ad) (hc : cells + 1 ≤ R.cells) (hl : slots + cap ≤ R.slots) {g : JFrame} (hg : g.method = m) {rest : List Value} (hs : g.stack = .int z :: rest) (hd : decode c.code g.pc = .ok (.newarray aty, 2))
    (kk : ∀ T' h' a, a = h.size → Stand p l e R s m args below meth c T' locs (cells + 1) (slots + cap) → T'.heap = h' → Ext h h' → ArI Z h' a (newarray.typeOf aty) n (fun _ => 0) → Exa Z h' a ad → D (T'.setTop { g with pc := g.pc + 2, stack := .ref a :: rest })) : D (T.setTop g) := by
  have q0 : ¬ z < 0 := by rw [Int32.lt_iff_toInt_lt, hz, show (0 : Int32).toInt = 0 from rfl]; omega
  obtain ⟨T', h', k, X', e', E, Ar, Ex, st⟩ := newPE X hx hZ w eT hg hd hs q0 (cap := cap) (by rw [to_nat hz]; exact hcap) hb hc hl had
  exact A (fun q => st _ q) (kk T' h' _ rfl X' e' E (ArI.mk Ar hz hdv) Ex)
theorem Adv.newJ (A : Adv p e below D) (X : Stand p l e R s m args below meth c T locs cells slots) (hx : p.tables.exec = Jvm.exec) (hZ : Z.Warmed39 s.vm) (w : (Cond.arrayClass .long).before a0 Z = true) (eT : T.heap = h) {z : Int32} (hz : z.toInt = n) (cap : Nat) (hcap : n ≤ cap) (hb : cap * 8 ≤ 536870912) (hc : cells + 1 ≤ R.cells) (hl : slots + cap ≤ R.slots) {g : JFrame} (hg : g.method = m) {rest : List Value} (hs : g.stack = .int z :: rest) (hd : decode c.code g.pc = .ok (.newarray .long, 2))
    (kk : ∀ T' h' a, a = h.size → Stand p l e R s m args below meth c T' locs (cells + 1) (slots + cap) → T'.heap = h' → Ext h h' → ArJ Z h' a n (fun _ => 0) → D (T'.setTop { g with pc := g.pc + 2, stack := .ref a :: rest })) : D (T.setTop g) := by
  have q0 : ¬ z < 0 := by rw [Int32.lt_iff_toInt_lt, hz, show (0 : Int32).toInt = 0 from rfl]; omega
  obtain ⟨T', h', k, X', e', E, Ar, st⟩   := newP (aty := .long) X hx hZ w eT hg hd hs q0 (cap := cap) (by rw [to_nat hz]; exact hcap) hb hc hl
  exact A (fun q => st _ q) (kk T' h' _ rfl X' e' E (ArJ.mk Ar hz))
theorem Adv.cloneI (A : Adv p e below D) (X : Stand p l e R s m args below meth c T locs cells slots) (hx : p.tables.exec = Jvm.exec) (hZ : Z.Warmed39 s.vm) {own ad : String} {index : Nat} (hown : s.vm.findClass own = some m.cls)
    (w1 : (Cond.methodLink own index ⟨ad, "clone", "()Ljava/lang/Object;"⟩).before a0 Z = true) (w2 : (Cond.sameMethod ad "java/lang/Object" "clone" "()Ljava/lang/Object;").before a0 Z = true) (w3 : (Cond.native ⟨"java/lang/Object", "clone", "()Ljava/lang/Object;"⟩).before a0 Z = true)
    (w4 : (Cond.instanceMethod ⟨"java/lang/Object", "clone", "()Ljava/lang/Object;"⟩).before a0 Z = true) (w5 : (Cond.selects ad ⟨ad, "clone", "()Ljava/lang/Object;"⟩ ⟨"java/lang/Object", "clone", "()Ljava/lang/Object;"⟩).before a0 Z = true) (w6 : (Cond.castable ad "java/lang/Cloneable").before a0 Z = true)
    (eT : T.heap = h) (F : ArI Z h a ty n f) (hfit : ∀ i, i < n → fits ty (.int (f i)) = true) (E : Exa Z h a ad) (W cap : Nat) (hcap : n ≤ cap) {g : JFrame} (hg : g.method = m) (hsz : g.locals.size = c.maxLocals) {rest : List Value} (hs : g.stack = .ref a :: rest) (hd : decode c.code g.pc = .ok (.invokevirtual index, 3))
    (hW : 2 * g.monitorRoom + (rest.map fun v => v.category).sum ≤ W) (hf : 1 ≤ R.frames) (hl : W + 14 ≤ R.locals) (hc : cells + 1 ≤ R.cells) (hsl : slots + cap ≤ R.slots)
    (kk : ∀ T' h' b, b = h.size → Stand p l e R s m args below meth c T' locs (cells + 1) (slots + cap) → T'.heap = h' → Ext h h' → ArI Z h' b ty n f → Exa Z h' b ad → D (T'.setTop { g with pc := g.pc + 3, stack := .ref b :: rest })) : D (T.setTop g) := by
  obtain ⟨z, cl, Ar, r, H⟩ := F
  have FC : FitC Z cl := fitC_of Ar fun i hi v hv => by rw [H i (by omega)] at hv; cases hv; exact hfit i (by omega)
  obtain ⟨T', h', X', e', Ex, Ar', E', st⟩ := cloneA X hx hZ hown w1 w2 w3 w4 w5 w6 eT Ar E FC hg hsz hs hd hf hW hl (by rw [r]; exact hcap) hc hsl
  exact A (fun q => st _ q) (kk T' h' _ rfl X' e' Ex ⟨z, _, Ar', r, H⟩ E')
end Arrays
end Jvm.JW
namespace Jvm.Pilot.@@N@@
open Jvm Jvm.ClassFile Sem Op Lib Jvm.Free Jvm.Stand Jvm.LawKit Jvm.RoadKit Bundle Jvm.JW Jvm.Pilot.@@N@@.Jvm.D
theorem d1_0 : decode method_3_code 0 = .ok (.iload 4, 2) := by decide +kernel
theorem d1_2 : decode method_3_code 2 = .ok (.iconst 1, 1) := by decide +kernel
theorem d1_3 : decode method_3_code 3 = .ok (.iand, 1) := by decide +kernel
theorem d1_4 : decode method_3_code 4 = .ok (.ifCond .ne 9, 3) := by decide +kernel
theorem d1_7 : decode method_3_code 7 = .ok (.lload_n 0, 1) := by decide +kernel
theorem d1_8 : decode method_3_code 8 = .ok (.ldc2_w 9, 3) := by decide +kernel
theorem d1_11 : decode method_3_code 11 = .ok (.land, 1) := by decide +kernel
theorem d1_12 : decode method_3_code 12 = .ok (.lreturn, 1) := by decide +kernel
theorem d1_13 : decode method_3_code 13 = .ok (.iload 4, 2) := by decide +kernel
theorem d1_15 : decode method_3_code 15 = .ok (.iconst 1, 1) := by decide +kernel
theorem d1_16 : decode method_3_code 16 = .ok (.ishr, 1) := by decide +kernel
theorem d1_17 : decode method_3_code 17 = .ok (.iconst 3, 1) := by decide +kernel
theorem d1_18 : decode method_3_code 18 = .ok (.iand, 1) := by decide +kernel
theorem d1_19 : decode method_3_code 19 = .ok (.i2l, 1) := by decide +kernel
theorem d1_20 : decode method_3_code 20 = .ok (.lconst 1, 1) := by decide +kernel
theorem d1_21 : decode method_3_code 21 = .ok (.lsub, 1) := by decide +kernel
theorem d1_22 : decode method_3_code 22 = .ok (.lstore 5, 2) := by decide +kernel
theorem d1_24 : decode method_3_code 24 = .ok (.lload_n 2, 1) := by decide +kernel
theorem d1_25 : decode method_3_code 25 = .ok (.lload 5, 2) := by decide +kernel
theorem d1_27 : decode method_3_code 27 = .ok (.ladd, 1) := by decide +kernel
theorem d1_28 : decode method_3_code 28 = .ok (.ldc2_w 9, 3) := by decide +kernel
theorem d1_31 : decode method_3_code 31 = .ok (.land, 1) := by decide +kernel
theorem d1_32 : decode method_3_code 32 = .ok (.lreturn, 1) := by decide +kernel
theorem pn1 : plainFor (⟨"com/example/stringified_tags/stringifiedtags/TreeBudgetTakePinLaw", "pick", "(JJI)J"⟩ : MethodName) = true := by decide +kernel
theorem ef1 (p1 : Int64) (p2 : Int64) (p3 : Int32) (m : MethodId) : entryFrame m #[(.long p1), (.long p2), (.int p3)] 7 = mkF m 0 #[.val (.long p1), .second, .val (.long p2), .second, .val (.int p3), .unset, .unset] [] := by first | (simp [entryFrame, mkF, argsToLocals, Value.category]; done) | rfl
def f1 (p1 : Int64) (p2 : Int64) (p3 : Int32) : Int64 := if (p3 &&& (1 : Int32)) = (0 : Int32) then ((p1 &&& (9223372036854775807 : Int64))) else (let x5_24 := ((((p3 >>> ((1 : Int32) &&& 31)) &&& (3 : Int32)).toInt64) - (1 : Int64)); ((p2 + x5_24) &&& (9223372036854775807 : Int64)))
set_option maxRecDepth 65536 in
set_option maxHeartbeats 40000000 in
theorem rm1 (l : Launch) (Z : State) (a0 : Array Value) (hw : ∀ d ∈ tables_1, d.before a0 Z = true) (ws : List Jvm.Cond) (p1 : Int64) (p2 : Int64) (p3 : Int32) (h0 : Heap) (n0 : Nat) :
    JMet l Z (⟨"com/example/stringified_tags/stringifiedtags/TreeBudgetTakePinLaw", "pick", "(JJI)J"⟩ : MethodName) method_3_code 7 (some .long) ws ({ frames := 0, cells := 0, slots := 0, locals := 0 } : Room) #[(.long p1), (.long p2), (.int p3)] h0 (QP (.long (f1 p1 p2 p3)) h0 n0) := by
  refine Jvm.JW.body #[.val (.long p1), .second, .val (.long p2), .second, .val (.int p3), .unset, .unset] pn1 (ef1 p1 p2 p3) ?_
  intro p e s m below meth c T0 D A F X0 hx hZ hby hml hown hnm hrt hlk e0
  refine A (XS.iload X0.here hx rfl (hb hby d1_0) rfl) ?_
  show D (T0.setTop (mkF m 2 #[.val (.long p1), .second, .val (.long p2), .second, .val (.int p3), .unset, .unset] [(.int p3)]))
  refine A (XS.iconst X0.here hx rfl (hb hby d1_2)) ?_
  show D (T0.setTop (mkF m 3 #[.val (.long p1), .second, .val (.long p2), .second, .val (.int p3), .unset, .unset] [(.int (1 : Int32)), (.int p3)]))
  refine A (XS.iand X0.here hx rfl (hb hby d1_3) rfl) ?_
  show D (T0.setTop (mkF m 4 #[.val (.long p1), .second, .val (.long p2), .second, .val (.int p3), .unset, .unset] [(.int (p3 &&& (1 : Int32)))]))
  by_cases c4_1 : (p3 &&& (1 : Int32)) = (0 : Int32)
  · refine A (XS.ifNo X0.here hx rfl (hb hby d1_4) rfl ((if0 _ _).trans (teq c4_1).2)) ?_
    show D (T0.setTop (mkF m 7 #[.val (.long p1), .second, .val (.long p2), .second, .val (.int p3), .unset, .unset] []))
    refine A (XS.lloadN X0.here hx rfl (hb hby d1_7) rfl) ?_
    show D (T0.setTop (mkF m 8 #[.val (.long p1), .second, .val (.long p2), .second, .val (.int p3), .unset, .unset] [(.long p1)]))
    refine A (X0.ldc2Long hx hown (mvT hZ (hw _ (List.mem_of_getElem? (i := 0) rfl))) (g := (mkF m 8 #[.val (.long p1), .second, .val (.long p2), .second, .val (.int p3), .unset, .unset] [(.long p1)])) rfl (hb hby d1_8) _) ?_
    show D (T0.setTop (mkF m 11 #[.val (.long p1), .second, .val (.long p2), .second, .val (.int p3), .unset, .unset] [(.long (9223372036854775807 : Int64)), (.long p1)]))
    refine A (XS.land X0.here hx rfl (hb hby d1_11) rfl) ?_
    show D (T0.setTop (mkF m 12 #[.val (.long p1), .second, .val (.long p2), .second, .val (.int p3), .unset, .unset] [(.long (p1 &&& (9223372036854775807 : Int64)))]))
    refine F _ (Jvm.JW.ret X0 hlk (v := some (.long (p1 &&& (9223372036854775807 : Int64)))) (fun h => by rw [hrt] at h; cases h) (fun fs hr => retOut X0 hx hrt rfl (Or.inr (Or.inl ⟨rfl, rfl, _, rfl⟩)) (hb hby d1_12) hr) rfl ?_ (by decide) (by decide))
    exact ⟨congrArg (fun z => some (Value.long z)) (by exact (if_pos c4_1).symm), (Fr.nil n0), e0⟩
  · refine A (XS.ifYes X0.here hx rfl (pc0 := 4) (pc' := 13) rfl (hb hby d1_4) rfl ((if0 _ _).trans (feq c4_1).2) (by decide) (by decide)) ?_
    show D (T0.setTop (mkF m 13 #[.val (.long p1), .second, .val (.long p2), .second, .val (.int p3), .unset, .unset] []))
    refine A (XS.iload X0.here hx rfl (hb hby d1_13) rfl) ?_
    show D (T0.setTop (mkF m 15 #[.val (.long p1), .second, .val (.long p2), .second, .val (.int p3), .unset, .unset] [(.int p3)]))
    refine A (XS.iconst X0.here hx rfl (hb hby d1_15)) ?_
    show D (T0.setTop (mkF m 16 #[.val (.long p1), .second, .val (.long p2), .second, .val (.int p3), .unset, .unset] [(.int (1 : Int32)), (.int p3)]))
    refine A (XS.ishr X0.here hx rfl (hb hby d1_16) rfl) ?_
    show D (T0.setTop (mkF m 17 #[.val (.long p1), .second, .val (.long p2), .second, .val (.int p3), .unset, .unset] [(.int (p3 >>> ((1 : Int32) &&& 31)))]))
    refine A (XS.iconst X0.here hx rfl (hb hby d1_17)) ?_
    show D (T0.setTop (mkF m 18 #[.val (.long p1), .second, .val (.long p2), .second, .val (.int p3), .unset, .unset] [(.int (3 : Int32)), (.int (p3 >>> ((1 : Int32) &&& 31)))]))
    refine A (XS.iand X0.here hx rfl (hb hby d1_18) rfl) ?_
    show D (T0.setTop (mkF m 19 #[.val (.long p1), .second, .val (.long p2), .second, .val (.int p3), .unset, .unset] [(.int ((p3 >>> ((1 : Int32) &&& 31)) &&& (3 : Int32)))]))
    refine A (XS.i2l X0.here hx rfl (hb hby d1_19) rfl) ?_
    show D (T0.setTop (mkF m 20 #[.val (.long p1), .second, .val (.long p2), .second, .val (.int p3), .unset, .unset] [(.long (((p3 >>> ((1 : Int32) &&& 31)) &&& (3 : Int32)).toInt64))]))
    refine A (XS.lconst X0.here hx rfl (hb hby d1_20)) ?_
    show D (T0.setTop (mkF m 21 #[.val (.long p1), .second, .val (.long p2), .second, .val (.int p3), .unset, .unset] [(.long (1 : Int64)), (.long (((p3 >>> ((1 : Int32) &&& 31)) &&& (3 : Int32)).toInt64))]))
    refine A (XS.lsub X0.here hx rfl (hb hby d1_21) rfl) ?_
    show D (T0.setTop (mkF m 22 #[.val (.long p1), .second, .val (.long p2), .second, .val (.int p3), .unset, .unset] [(.long ((((p3 >>> ((1 : Int32) &&& 31)) &&& (3 : Int32)).toInt64) - (1 : Int64)))]))
    refine A (XS.lstore X0.here hx rfl (hb hby d1_22) rfl (l' := #[.val (.long p1), .second, .val (.long p2), .second, .val (.int p3), .val (.long ((((p3 >>> ((1 : Int32) &&& 31)) &&& (3 : Int32)).toInt64) - (1 : Int64))), .second]) rfl) ?_
    show D (T0.setTop (mkF m 24 #[.val (.long p1), .second, .val (.long p2), .second, .val (.int p3), .val (.long ((((p3 >>> ((1 : Int32) &&& 31)) &&& (3 : Int32)).toInt64) - (1 : Int64))), .second] []))
    suffices Kx5_24 : ∀ x5_24 : Int64, x5_24 = ((((p3 >>> ((1 : Int32) &&& 31)) &&& (3 : Int32)).toInt64) - (1 : Int64)) → D (T0.setTop (mkF m 24 #[.val (.long p1), .second, .val (.long p2), .second, .val (.int p3), .val (.long x5_24), .second] [])) from Kx5_24 _ rfl
    intro x5_24 hx5_24
    refine A (XS.lloadN X0.here hx rfl (hb hby d1_24) rfl) ?_
    show D (T0.setTop (mkF m 25 #[.val (.long p1), .second, .val (.long p2), .second, .val (.int p3), .val (.long x5_24), .second] [(.long p2)]))
    refine A (XS.lload X0.here hx rfl (hb hby d1_25) rfl) ?_
    show D (T0.setTop (mkF m 27 #[.val (.long p1), .second, .val (.long p2), .second, .val (.int p3), .val (.long x5_24), .second] [(.long x5_24), (.long p2)]))
    refine A (XS.ladd X0.here hx rfl (hb hby d1_27) rfl) ?_
    show D (T0.setTop (mkF m 28 #[.val (.long p1), .second, .val (.long p2), .second, .val (.int p3), .val (.long x5_24), .second] [(.long (p2 + x5_24))]))
    refine A (X0.ldc2Long hx hown (mvT hZ (hw _ (List.mem_of_getElem? (i := 0) rfl))) (g := (mkF m 28 #[.val (.long p1), .second, .val (.long p2), .second, .val (.int p3), .val (.long x5_24), .second] [(.long (p2 + x5_24))])) rfl (hb hby d1_28) _) ?_
    show D (T0.setTop (mkF m 31 #[.val (.long p1), .second, .val (.long p2), .second, .val (.int p3), .val (.long x5_24), .second] [(.long (9223372036854775807 : Int64)), (.long (p2 + x5_24))]))
    refine A (XS.land X0.here hx rfl (hb hby d1_31) rfl) ?_
    show D (T0.setTop (mkF m 32 #[.val (.long p1), .second, .val (.long p2), .second, .val (.int p3), .val (.long x5_24), .second] [(.long ((p2 + x5_24) &&& (9223372036854775807 : Int64)))]))
    refine F _ (Jvm.JW.ret X0 hlk (v := some (.long ((p2 + x5_24) &&& (9223372036854775807 : Int64)))) (fun h => by rw [hrt] at h; cases h) (fun fs hr => retOut X0 hx hrt rfl (Or.inr (Or.inl ⟨rfl, rfl, _, rfl⟩)) (hb hby d1_32) hr) rfl ?_ (by decide) (by decide))
    exact ⟨congrArg (fun z => some (Value.long z)) (by subst hx5_24; exact (if_neg c4_1).symm), (Fr.nil n0), e0⟩
theorem d2_0 : decode prog_80_method_1_code 0 = .ok (.aload_n 0, 1) := by decide +kernel
theorem d2_1 : decode prog_80_method_1_code 1 = .ok (.invokespecial 5, 3) := by decide +kernel
theorem d2_4 : decode prog_80_method_1_code 4 = .ok (.aload_n 0, 1) := by decide +kernel
theorem d2_5 : decode prog_80_method_1_code 5 = .ok (.lload_n 1, 1) := by decide +kernel
theorem d2_6 : decode prog_80_method_1_code 6 = .ok (.putfield 11, 3) := by decide +kernel
theorem d2_9 : decode prog_80_method_1_code 9 = .ok (.aload_n 0, 1) := by decide +kernel
theorem d2_10 : decode prog_80_method_1_code 10 = .ok (.lload_n 1, 1) := by decide +kernel
theorem d2_11 : decode prog_80_method_1_code 11 = .ok (.putfield 15, 3) := by decide +kernel
theorem d2_14 : decode prog_80_method_1_code 14 = .ok (.return_, 1) := by decide +kernel
theorem pn2 : plainFor (⟨"com/example/stringified_tags/stringifiedtags/TreeBudget", "<init>", "(J)V"⟩ : MethodName) = true := by decide +kernel
theorem ef2 (self : Addr) (p1 : Int64) (m : MethodId) : entryFrame m #[(.ref self), (.long p1)] 3 = mkF m 0 #[.val (.ref self), .val (.long p1), .second] [] := by first | (simp [entryFrame, mkF, argsToLocals, Value.category]; done) | rfl
set_option maxRecDepth 65536 in
set_option maxHeartbeats 40000000 in
theorem rm2 (l : Launch) (Z : State) (a0 : Array Value) (hw : ∀ d ∈ tables_1, d.before a0 Z = true) (ws : List Jvm.Cond) (self : Addr) (p1 : Int64) (h0 : Heap) (n0 : Nat) (Z0 : n0 ≤ h0.size) (g_self : n0 ≤ self) (E_self : Exa Z h0 self "com/example/stringified_tags/stringifiedtags/TreeBudget") (F_max : Fld Z h0 self "com/example/stringified_tags/stringifiedtags/TreeBudget" "max" "J" (.long (0 : Int64))) (F_left : Fld Z h0 self "com/example/stringified_tags/stringifiedtags/TreeBudget" "left" "J" (.long (0 : Int64))) :
    JMet l Z (⟨"com/example/stringified_tags/stringifiedtags/TreeBudget", "<init>", "(J)V"⟩ : MethodName) prog_80_method_1_code 3 none ws ({ frames := 1, cells := 0, slots := 0, locals := 12 } : Room) #[(.ref self), (.long p1)] h0 (fun v h L => v = none ∧ Fr n0 L ∧ Keep h0 h [self] ∧ Exa Z h self "com/example/stringified_tags/stringifiedtags/TreeBudget" ∧ Fld Z h self "com/example/stringified_tags/stringifiedtags/TreeBudget" "left" "J" (.long p1)) := by
  refine Jvm.JW.body #[.val (.ref self), .val (.long p1), .second] pn2 (ef2 self p1) ?_
  intro p e s m below meth c T0 D A F X0 hx hZ hby hml hown hnm hrt hlk e0
  refine A (XS.aloadN X0.here hx rfl (hb hby d2_0) rfl rfl) ?_
  show D (T0.setTop (mkF m 1 #[.val (.ref self), .val (.long p1), .second] [(.ref self)]))
  obtain ⟨T1, X1, e1, st1⟩ := initO X0 hx hZ hown (hw _ (List.mem_of_getElem? (i := 11) rfl)) (hw _ (List.mem_of_getElem? (i := 12) rfl)) (hw _ (List.mem_of_getElem? (i := 13) rfl)) e0 (g := (mkF m 1 #[.val (.ref self), .val (.long p1), .second] [(.ref self)])) rfl (by rw [hml]; rfl) rfl (hb hby d2_1) (by decide) (W := 0) (by show 2 * 0 + _ ≤ _; exact Nat.le_of_eq rfl) (by decide)
  refine A (st1 _) ?_
  show D (T1.setTop (mkF m 4 #[.val (.ref self), .val (.long p1), .second] []))
  refine A (XS.aloadN X1.here hx rfl (hb hby d2_4) rfl rfl) ?_
  show D (T1.setTop (mkF m 5 #[.val (.ref self), .val (.long p1), .second] [(.ref self)]))
  refine A (XS.lloadN X1.here hx rfl (hb hby d2_5) rfl) ?_
  show D (T1.setTop (mkF m 6 #[.val (.ref self), .val (.long p1), .second] [(.long p1), (.ref self)]))
  obtain ⟨T2, h2, X2, e2, W2, st2⟩ := putF X1 hx hZ hown (host := "") (Or.inl (hw _ (List.mem_of_getElem? (i := 14) rfl))) Via.refl e1 F_max E_self (Or.inr ⟨(hw _ (List.mem_of_getElem? (i := 15) rfl)), rfl, hnm⟩) (hw _ (List.mem_of_getElem? (i := 6) rfl)) (ty := .long) (by decide) rfl rfl (g := (mkF m 6 #[.val (.ref self), .val (.long p1), .second] [(.long p1), (.ref self)])) rfl rfl (hb hby d2_6)
  have N2 := Fr.snoc X2 (Fr.nil n0) g_self
  have F_max_2 := F_max.same W2
  have E_self_2 := E_self.wr W2
  have F_left_2 := F_left.other W2 (Or.inr (slot_ne (Or.inl (hw _ (List.mem_of_getElem? (i := 17) rfl))) (Or.inr (hw _ (List.mem_of_getElem? (i := 15) rfl))) (by decide) (t := .long) (t' := .long) (by decide) (by decide)))
  have Z_2 : n0 ≤ h2.size := Nat.le_trans Z0 (Nat.le_of_eq W2.size.symm)
  have KK_2 : Keep h0 h2 [self] := (Keep.refl h0 [self]).wr W2 (Or.inl (List.mem_of_getElem? (i := 0) rfl))
  refine A (st2 _) ?_
  show D (T2.setTop (mkF m 9 #[.val (.ref self), .val (.long p1), .second] []))
  refine A (XS.aloadN X2.here hx rfl (hb hby d2_9) rfl rfl) ?_
  show D (T2.setTop (mkF m 10 #[.val (.ref self), .val (.long p1), .second] [(.ref self)]))
  refine A (XS.lloadN X2.here hx rfl (hb hby d2_10) rfl) ?_
  show D (T2.setTop (mkF m 11 #[.val (.ref self), .val (.long p1), .second] [(.long p1), (.ref self)]))
  obtain ⟨T3, h3, X3, e3, W3, st3⟩ := putF X2 hx hZ hown (host := "") (Or.inl (hw _ (List.mem_of_getElem? (i := 16) rfl))) Via.refl e2 F_left_2 E_self_2 (Or.inl (hw _ (List.mem_of_getElem? (i := 17) rfl))) (hw _ (List.mem_of_getElem? (i := 6) rfl)) (ty := .long) (by decide) rfl rfl (g := (mkF m 11 #[.val (.ref self), .val (.long p1), .second] [(.long p1), (.ref self)])) rfl rfl (hb hby d2_11)
  have N3 := Fr.snoc X3 N2 g_self
  have F_left_3 := F_left_2.same W3
  have E_self_3 := E_self_2.wr W3
  have F_max_3 := F_max_2.other W3 (Or.inr (slot_ne (Or.inr (hw _ (List.mem_of_getElem? (i := 15) rfl))) (Or.inl (hw _ (List.mem_of_getElem? (i := 17) rfl))) (by decide) (t := .long) (t' := .long) (by decide) (by decide)))
  have Z_3 : n0 ≤ h3.size := Nat.le_trans Z_2 (Nat.le_of_eq W3.size.symm)
  have KK_3 : Keep h0 h3 [self] := KK_2.wr W3 (Or.inl (List.mem_of_getElem? (i := 0) rfl))
  refine A (st3 _) ?_
  show D (T3.setTop (mkF m 14 #[.val (.ref self), .val (.long p1), .second] []))
  exact F _ (Jvm.JW.ret X3 hlk (v := none) (fun _ => rfl) (fun fs hr => X3.returnOut hx hrt (hb hby d2_14) hr) e3 ⟨rfl, N3, KK_3, E_self_3, F_left_3⟩ (by decide) (by decide))
def own_tk (lf x : Int64) : Int32 := if lf < x then 0 else 1
def own_lf (lf x : Int64) : Int64 := if lf < x then lf else lf - x
theorem d4_0 : decode prog_80_method_3_code 0 = .ok (.lload_n 1, 1) := by decide +kernel
theorem d4_1 : decode prog_80_method_3_code 1 = .ok (.aload_n 0, 1) := by decide +kernel
theorem d4_2 : decode prog_80_method_3_code 2 = .ok (.getfield 15, 3) := by decide +kernel
theorem d4_5 : decode prog_80_method_3_code 5 = .ok (.lcmp, 1) := by decide +kernel
theorem d4_6 : decode prog_80_method_3_code 6 = .ok (.ifCond .gt 7, 3) := by decide +kernel
theorem d4_9 : decode prog_80_method_3_code 9 = .ok (.iconst 1, 1) := by decide +kernel
theorem d4_10 : decode prog_80_method_3_code 10 = .ok (.goto 4, 3) := by decide +kernel
theorem d4_13 : decode prog_80_method_3_code 13 = .ok (.iconst 0, 1) := by decide +kernel
theorem d4_14 : decode prog_80_method_3_code 14 = .ok (.istore_n 3, 1) := by decide +kernel
theorem d4_15 : decode prog_80_method_3_code 15 = .ok (.iload_n 3, 1) := by decide +kernel
theorem d4_16 : decode prog_80_method_3_code 16 = .ok (.ifCond .eq 13, 3) := by decide +kernel
theorem d4_19 : decode prog_80_method_3_code 19 = .ok (.aload_n 0, 1) := by decide +kernel
theorem d4_20 : decode prog_80_method_3_code 20 = .ok (.dup, 1) := by decide +kernel
theorem d4_21 : decode prog_80_method_3_code 21 = .ok (.getfield 15, 3) := by decide +kernel
theorem d4_24 : decode prog_80_method_3_code 24 = .ok (.lload_n 1, 1) := by decide +kernel
theorem d4_25 : decode prog_80_method_3_code 25 = .ok (.lsub, 1) := by decide +kernel
theorem d4_26 : decode prog_80_method_3_code 26 = .ok (.putfield 15, 3) := by decide +kernel
theorem d4_29 : decode prog_80_method_3_code 29 = .ok (.iload_n 3, 1) := by decide +kernel
theorem d4_30 : decode prog_80_method_3_code 30 = .ok (.ireturn, 1) := by decide +kernel
theorem pn4 : plainFor (⟨"com/example/stringified_tags/stringifiedtags/TreeBudget", "take", "(J)Z"⟩ : MethodName) = true := by decide +kernel
theorem ef4 (self : Addr) (p1 : Int64) (m : MethodId) : entryFrame m #[(.ref self), (.long p1)] 4 = mkF m 0 #[.val (.ref self), .val (.long p1), .second, .unset] [] := by first | (simp [entryFrame, mkF, argsToLocals, Value.category]; done) | rfl
set_option maxRecDepth 65536 in
set_option maxHeartbeats 40000000 in
theorem rm4 (l : Launch) (Z : State) (a0 : Array Value) (hw : ∀ d ∈ tables_1, d.before a0 Z = true) (ws : List Jvm.Cond) (self : Addr) (p1 : Int64) (h0 : Heap) (n0 : Nat) (lf : Int64) (Z0 : n0 ≤ h0.size) (g_self : n0 ≤ self) (E_self : Exa Z h0 self "com/example/stringified_tags/stringifiedtags/TreeBudget") (F_left : Fld Z h0 self "com/example/stringified_tags/stringifiedtags/TreeBudget" "left" "J" (.long lf)) :
    JMet l Z (⟨"com/example/stringified_tags/stringifiedtags/TreeBudget", "take", "(J)Z"⟩ : MethodName) prog_80_method_3_code 4 (some .boolean) ws ({ frames := 0, cells := 0, slots := 0, locals := 0 } : Room) #[(.ref self), (.long p1)] h0 (fun v h L => v = some (.int (own_tk lf p1)) ∧ Fr n0 L ∧ Keep h0 h [self] ∧ Exa Z h self "com/example/stringified_tags/stringifiedtags/TreeBudget" ∧ Fld Z h self "com/example/stringified_tags/stringifiedtags/TreeBudget" "left" "J" (.long (own_lf lf p1))) := by
  refine Jvm.JW.body #[.val (.ref self), .val (.long p1), .second, .unset] pn4 (ef4 self p1) ?_
  intro p e s m below meth c T0 D A F X0 hx hZ hby hml hown hnm hrt hlk e0
  refine A (XS.lloadN X0.here hx rfl (hb hby d4_0) rfl) ?_
  show D (T0.setTop (mkF m 1 #[.val (.ref self), .val (.long p1), .second, .unset] [(.long p1)]))
  refine A (XS.aloadN X0.here hx rfl (hb hby d4_1) rfl rfl) ?_
  show D (T0.setTop (mkF m 2 #[.val (.ref self), .val (.long p1), .second, .unset] [(.ref self), (.long p1)]))
  obtain ⟨T1, X1, e1, st1⟩ := getF X0 hx hZ hown (host := "") (Or.inl (hw _ (List.mem_of_getElem? (i := 16) rfl))) Via.refl e0 F_left (g := (mkF m 2 #[.val (.ref self), .val (.long p1), .second, .unset] [(.ref self), (.long p1)])) rfl rfl (hb hby d4_2)
  refine A (st1 _) ?_
  show D (T1.setTop (mkF m 5 #[.val (.ref self), .val (.long p1), .second, .unset] [(.long lf), (.long p1)]))
  refine A (XS.lcmp X1.here hx rfl (hb hby d4_5) rfl) ?_
  show D (T1.setTop (mkF m 6 #[.val (.ref self), .val (.long p1), .second, .unset] [(.int (lcmpW p1 lf))]))
  by_cases c6_2 : (0 : Int32) < (lcmpW p1 lf)
  · refine A (XS.ifYes X1.here hx rfl (pc0 := 6) (pc' := 13) rfl (hb hby d4_6) rfl ((if0 _ _).trans (tlt c6_2).2.2.1) (by decide) (by decide)) ?_
    show D (T1.setTop (mkF m 13 #[.val (.ref self), .val (.long p1), .second, .unset] []))
    refine A (XS.iconst X1.here hx rfl (hb hby d4_13)) ?_
    show D (T1.setTop (mkF m 14 #[.val (.ref self), .val (.long p1), .second, .unset] [(.int (0 : Int32))]))
    refine A (XS.istoreN X1.here hx rfl (hb hby d4_14) rfl (l' := #[.val (.ref self), .val (.long p1), .second, .val (.int (0 : Int32))]) rfl) ?_
    show D (T1.setTop (mkF m 15 #[.val (.ref self), .val (.long p1), .second, .val (.int (0 : Int32))] []))
    refine A (XS.iloadN X1.here hx rfl (hb hby d4_15) rfl) ?_
    show D (T1.setTop (mkF m 16 #[.val (.ref self), .val (.long p1), .second, .val (.int (0 : Int32))] [(.int (0 : Int32))]))
    refine A (XS.ifYes X1.here hx rfl (pc0 := 16) (pc' := 29) rfl (hb hby d4_16) rfl ((if0 _ _).trans (teq (by decide : (0 : Int32) = (0 : Int32))).1) (by decide) (by decide)) ?_
    show D (T1.setTop (mkF m 29 #[.val (.ref self), .val (.long p1), .second, .val (.int (0 : Int32))] []))
    refine A (XS.iloadN X1.here hx rfl (hb hby d4_29) rfl) ?_
    show D (T1.setTop (mkF m 30 #[.val (.ref self), .val (.long p1), .second, .val (.int (0 : Int32))] [(.int (0 : Int32))]))
    refine F _ (Jvm.JW.ret X1 hlk (v := some (.int (0 : Int32))) (fun h => by rw [hrt] at h; cases h) (fun fs hr => retOut X1 hx hrt rfl (Or.inl ⟨rfl, Or.inr (Or.inl rfl), _, rfl⟩) (hb hby d4_30) hr) e1 ?_ (by decide) (by decide))
    have hc := (lw_gt _ _).mp c6_2
    have q1 : own_tk lf p1 = (0 : Int32) := by unfold own_tk; rw [if_pos hc]
    have q2 : own_lf lf p1 = lf := by unfold own_lf; rw [if_pos hc]
    show _ ∧ _ ∧ _ ∧ _ ∧ _
    rw [q1, q2]
    exact ⟨rfl, (Fr.nil n0), (Keep.refl h0 [self]), E_self, F_left⟩
  · refine A (XS.ifNo X1.here hx rfl (hb hby d4_6) rfl ((if0 _ _).trans (flt c6_2).2.2.1)) ?_
    show D (T1.setTop (mkF m 9 #[.val (.ref self), .val (.long p1), .second, .unset] []))
    refine A (XS.iconst X1.here hx rfl (hb hby d4_9)) ?_
    show D (T1.setTop (mkF m 10 #[.val (.ref self), .val (.long p1), .second, .unset] [(.int (1 : Int32))]))
    refine A (XS.goto X1.here hx rfl (pc0 := 10) (pc' := 14) rfl (hb hby d4_10) (by decide) (by decide)) ?_
    show D (T1.setTop (mkF m 14 #[.val (.ref self), .val (.long p1), .second, .unset] [(.int (1 : Int32))]))
    refine A (XS.istoreN X1.here hx rfl (hb hby d4_14) rfl (l' := #[.val (.ref self), .val (.long p1), .second, .val (.int (1 : Int32))]) rfl) ?_
    show D (T1.setTop (mkF m 15 #[.val (.ref self), .val (.long p1), .second, .val (.int (1 : Int32))] []))
    refine A (XS.iloadN X1.here hx rfl (hb hby d4_15) rfl) ?_
    show D (T1.setTop (mkF m 16 #[.val (.ref self), .val (.long p1), .second, .val (.int (1 : Int32))] [(.int (1 : Int32))]))
    refine A (XS.ifNo X1.here hx rfl (hb hby d4_16) rfl ((if0 _ _).trans (feq (by decide : ¬ ((1 : Int32) = (0 : Int32)))).1)) ?_
    show D (T1.setTop (mkF m 19 #[.val (.ref self), .val (.long p1), .second, .val (.int (1 : Int32))] []))
    refine A (XS.aloadN X1.here hx rfl (hb hby d4_19) rfl rfl) ?_
    show D (T1.setTop (mkF m 20 #[.val (.ref self), .val (.long p1), .second, .val (.int (1 : Int32))] [(.ref self)]))
    refine A (XS.dup X1.here hx rfl (hb hby d4_20) rfl rfl) ?_
    show D (T1.setTop (mkF m 21 #[.val (.ref self), .val (.long p1), .second, .val (.int (1 : Int32))] [(.ref self), (.ref self)]))
    obtain ⟨T3, X3, e3, st3⟩ := getF X1 hx hZ hown (host := "") (Or.inl (hw _ (List.mem_of_getElem? (i := 16) rfl))) Via.refl e1 F_left (g := (mkF m 21 #[.val (.ref self), .val (.long p1), .second, .val (.int (1 : Int32))] [(.ref self), (.ref self)])) rfl rfl (hb hby d4_21)
    refine A (st3 _) ?_
    show D (T3.setTop (mkF m 24 #[.val (.ref self), .val (.long p1), .second, .val (.int (1 : Int32))] [(.long lf), (.ref self)]))
    refine A (XS.lloadN X3.here hx rfl (hb hby d4_24) rfl) ?_
    show D (T3.setTop (mkF m 25 #[.val (.ref self), .val (.long p1), .second, .val (.int (1 : Int32))] [(.long p1), (.long lf), (.ref self)]))
    refine A (XS.lsub X3.here hx rfl (hb hby d4_25) rfl) ?_
    show D (T3.setTop (mkF m 26 #[.val (.ref self), .val (.long p1), .second, .val (.int (1 : Int32))] [(.long (lf - p1)), (.ref self)]))
    obtain ⟨T4, h4, X4, e4, W4, st4⟩ := putF X3 hx hZ hown (host := "") (Or.inl (hw _ (List.mem_of_getElem? (i := 16) rfl))) Via.refl e3 F_left E_self (Or.inl (hw _ (List.mem_of_getElem? (i := 17) rfl))) (hw _ (List.mem_of_getElem? (i := 6) rfl)) (ty := .long) (by decide) rfl rfl (g := (mkF m 26 #[.val (.ref self), .val (.long p1), .second, .val (.int (1 : Int32))] [(.long (lf - p1)), (.ref self)])) rfl rfl (hb hby d4_26)
    have N4 := Fr.snoc X4 (Fr.nil n0) g_self
    have F_left_4 := F_left.same W4
    have E_self_4 := E_self.wr W4
    have Z_4 : n0 ≤ h4.size := Nat.le_trans Z0 (Nat.le_of_eq W4.size.symm)
    have KK_4 : Keep h0 h4 [self] := (Keep.refl h0 [self]).wr W4 (Or.inl (List.mem_of_getElem? (i := 0) rfl))
    refine A (st4 _) ?_
    show D (T4.setTop (mkF m 29 #[.val (.ref self), .val (.long p1), .second, .val (.int (1 : Int32))] []))
    refine A (XS.iloadN X4.here hx rfl (hb hby d4_29) rfl) ?_
    show D (T4.setTop (mkF m 30 #[.val (.ref self), .val (.long p1), .second, .val (.int (1 : Int32))] [(.int (1 : Int32))]))
    refine F _ (Jvm.JW.ret X4 hlk (v := some (.int (1 : Int32))) (fun h => by rw [hrt] at h; cases h) (fun fs hr => retOut X4 hx hrt rfl (Or.inl ⟨rfl, Or.inr (Or.inl rfl), _, rfl⟩) (hb hby d4_30) hr) e4 ?_ (by decide) (by decide))
    have hc := fun q => c6_2 ((lw_gt _ _).mpr q)
    have q1 : own_tk lf p1 = (1 : Int32) := by unfold own_tk; rw [if_neg hc]
    have q2 : own_lf lf p1 = (lf - p1) := by unfold own_lf; rw [if_neg hc]
    show _ ∧ _ ∧ _ ∧ _ ∧ _
    rw [q1, q2]
    exact ⟨rfl, N4, KK_4, E_self_4, F_left_4⟩
theorem own_e (m x : Int64) : (if (0 : Int32) < (lcmpW x m) then (0 : Int32) else (1 : Int32)) = own_tk m x := by
  unfold own_tk
  by_cases h : m < x
  · rw [if_pos h, if_pos ((lw_gt _ _).mpr h)]
  · rw [if_neg h, if_neg (fun q => h ((lw_gt _ _).mp q))]
theorem own_l (m x : Int64) : (if own_tk m x = (0 : Int32) then m else (m - x)) = own_lf m x := by
  unfold own_tk own_lf
  by_cases h : m < x
  · rw [if_pos h, if_pos h, if_pos rfl]
  · rw [if_neg h, if_neg h, if_neg (by decide)]
theorem own_nlt (r : Int64) : ¬ r < r := by rw [Int64.lt_iff_toInt_lt]; omega
theorem own_tt (r : Int64) : own_tk r r = 1 := if_neg (own_nlt r)
theorem own_ll (r : Int64) : own_lf r r = 0 := by unfold own_lf; rw [if_neg (own_nlt r), Int64.sub_self]
theorem pn0 : plainFor x = true := by decide +kernel
theorem pd0_0 : parseMethodDescriptor "(JJI)J" = some ⟨[.long, .long, .int], some .long⟩ := by decide +kernel
theorem pd0_1 : parseMethodDescriptor "(J)V" = some ⟨[.long], none⟩ := by decide +kernel
theorem pd0_2 : parseMethodDescriptor "(J)Z" = some ⟨[.long], some .boolean⟩ := by decide +kernel
theorem ef0 (p1 : Int64) (p2 : Int64) (p3 : Int64) (p4 : Int32) (m : MethodId) : entryFrame m #[(.long p1), (.long p2), (.long p3), (.int p4)] maxLocals = mkF m 0 #[.val (.long p1), .second, .val (.long p2), .second, .val (.long p3), .second, .val (.int p4), .unset, .unset, .unset, .unset, .unset, .unset, .unset, .unset, .unset, .unset, .unset, .unset, .unset, .unset, .unset, .unset, .unset] [] := by first | (simp [entryFrame, mkF, argsToLocals, Value.category, maxLocals]; done) | rfl
set_option maxRecDepth 65536 in
set_option maxHeartbeats 40000000 in
theorem rm0 (l : Launch) (Z : State) (a0 : Array Value) (hw : ∀ d ∈ tables_1, d.before a0 Z = true) (ws : List Jvm.Cond) (p1 : Int64) (p2 : Int64) (p3 : Int64) (p4 : Int32) (h0 : Heap) (n0 : Nat) (Z0 : n0 ≤ h0.size) :
    JMet l Z x code maxLocals ret ws room_1 #[(.long p1), (.long p2), (.long p3), (.int p4)] h0 (QL n0) := by
  refine Jvm.JW.body #[.val (.long p1), .second, .val (.long p2), .second, .val (.long p3), .second, .val (.int p4), .unset, .unset, .unset, .unset, .unset, .unset, .unset, .unset, .unset, .unset, .unset, .unset, .unset, .unset, .unset, .unset, .unset] pn0 (ef0 p1 p2 p3 p4) ?_
  intro p e s m below meth c T0 D A F X0 hx hZ hby hml hown hnm hrt hlk e0
  refine A (XS.lloadN X0.here hx rfl (hb hby at_0) rfl) ?_
  show D (T0.setTop (mkF m 1 #[.val (.long p1), .second, .val (.long p2), .second, .val (.long p3), .second, .val (.int p4), .unset, .unset, .unset, .unset, .unset, .unset, .unset, .unset, .unset, .unset, .unset, .unset, .unset, .unset, .unset, .unset, .unset] [(.long p1)]))
  refine A (X0.ldc2Long hx hown (mvT hZ (hw _ (List.mem_of_getElem? (i := 0) rfl))) (g := (mkF m 1 #[.val (.long p1), .second, .val (.long p2), .second, .val (.long p3), .second, .val (.int p4), .unset, .unset, .unset, .unset, .unset, .unset, .unset, .unset, .unset, .unset, .unset, .unset, .unset, .unset, .unset, .unset, .unset] [(.long p1)])) rfl (hb hby at_1) _) ?_
  show D (T0.setTop (mkF m 4 #[.val (.long p1), .second, .val (.long p2), .second, .val (.long p3), .second, .val (.int p4), .unset, .unset, .unset, .unset, .unset, .unset, .unset, .unset, .unset, .unset, .unset, .unset, .unset, .unset, .unset, .unset, .unset] [(.long (9223372036854775807 : Int64)), (.long p1)]))
  refine A (XS.land X0.here hx rfl (hb hby at_4) rfl) ?_
  show D (T0.setTop (mkF m 5 #[.val (.long p1), .second, .val (.long p2), .second, .val (.long p3), .second, .val (.int p4), .unset, .unset, .unset, .unset, .unset, .unset, .unset, .unset, .unset, .unset, .unset, .unset, .unset, .unset, .unset, .unset, .unset] [(.long (p1 &&& (9223372036854775807 : Int64)))]))
  refine A (XS.lstore X0.here hx rfl (hb hby at_5) rfl (l' := #[.val (.long p1), .second, .val (.long p2), .second, .val (.long p3), .second, .val (.int p4), .val (.long (p1 &&& (9223372036854775807 : Int64))), .second, .unset, .unset, .unset, .unset, .unset, .unset, .unset, .unset, .unset, .unset, .unset, .unset, .unset, .unset, .unset]) rfl) ?_
  show D (T0.setTop (mkF m 7 #[.val (.long p1), .second, .val (.long p2), .second, .val (.long p3), .second, .val (.int p4), .val (.long (p1 &&& (9223372036854775807 : Int64))), .second, .unset, .unset, .unset, .unset, .unset, .unset, .unset, .unset, .unset, .unset, .unset, .unset, .unset, .unset, .unset] []))
  suffices Kx7_7 : ∀ x7_7 : Int64, x7_7 = (p1 &&& (9223372036854775807 : Int64)) → D (T0.setTop (mkF m 7 #[.val (.long p1), .second, .val (.long p2), .second, .val (.long p3), .second, .val (.int p4), .val (.long x7_7), .second, .unset, .unset, .unset, .unset, .unset, .unset, .unset, .unset, .unset, .unset, .unset, .unset, .unset, .unset, .unset] [])) from Kx7_7 _ rfl
  intro x7_7 hx7_7
  refine A (XS.lloadN X0.here hx rfl (hb hby at_7) rfl) ?_
  show D (T0.setTop (mkF m 8 #[.val (.long p1), .second, .val (.long p2), .second, .val (.long p3), .second, .val (.int p4), .val (.long x7_7), .second, .unset, .unset, .unset, .unset, .unset, .unset, .unset, .unset, .unset, .unset, .unset, .unset, .unset, .unset, .unset] [(.long p2)]))
  refine A (XS.lload X0.here hx rfl (hb hby at_8) rfl) ?_
  show D (T0.setTop (mkF m 10 #[.val (.long p1), .second, .val (.long p2), .second, .val (.long p3), .second, .val (.int p4), .val (.long x7_7), .second, .unset, .unset, .unset, .unset, .unset, .unset, .unset, .unset, .unset, .unset, .unset, .unset, .unset, .unset, .unset] [(.long x7_7), (.long p2)]))
  refine A (XS.iload X0.here hx rfl (hb hby at_10) rfl) ?_
  show D (T0.setTop (mkF m 12 #[.val (.long p1), .second, .val (.long p2), .second, .val (.long p3), .second, .val (.int p4), .val (.long x7_7), .second, .unset, .unset, .unset, .unset, .unset, .unset, .unset, .unset, .unset, .unset, .unset, .unset, .unset, .unset, .unset] [(.int p4), (.long x7_7), (.long p2)]))
  refine Adv.callS A X0 hx hZ hown (hw _ (List.mem_of_getElem? (i := 1) rfl)) (hw _ (List.mem_of_getElem? (i := 2) rfl)) (hw _ (List.mem_of_getElem? (i := 3) rfl)) (hw _ (List.mem_of_getElem? (i := 4) rfl)) e0 (rm1 l Z a0 hw [] p2 x7_7 p4 h0 n0) 0 (g := (mkF m 12 #[.val (.long p1), .second, .val (.long p2), .second, .val (.long p3), .second, .val (.int p4), .val (.long x7_7), .second, .unset, .unset, .unset, .unset, .unset, .unset, .unset, .unset, .unset, .unset, .unset, .unset, .unset, .unset, .unset] [(.int p4), (.long x7_7), (.long p2)])) rfl (by rw [hml]; rfl) [(.long p2), (.long x7_7), (.int p4)] [] rfl (lenOf pd0_0 rfl) rfl (by show 2 * 0 + _ ≤ _; exact Nat.le_of_eq rfl) (hb hby at_12) (by decide) (by decide) (by decide) (by decide) (by decide) ?_
  rintro T1 L1 _ X1 ⟨rfl, N1_q, e1⟩
  have N1 := Fr.app (Fr.nil n0) N1_q
  show D (T1.setTop (mkF m 15 #[.val (.long p1), .second, .val (.long p2), .second, .val (.long p3), .second, .val (.int p4), .val (.long x7_7), .second, .unset, .unset, .unset, .unset, .unset, .unset, .unset, .unset, .unset, .unset, .unset, .unset, .unset, .unset, .unset] [(.long (f1 p2 x7_7 p4))]))
  refine A (XS.lstore X1.here hx rfl (hb hby at_15) rfl (l' := #[.val (.long p1), .second, .val (.long p2), .second, .val (.long p3), .second, .val (.int p4), .val (.long x7_7), .second, .val (.long (f1 p2 x7_7 p4)), .second, .unset, .unset, .unset, .unset, .unset, .unset, .unset, .unset, .unset, .unset, .unset, .unset, .unset]) rfl) ?_
  show D (T1.setTop (mkF m 17 #[.val (.long p1), .second, .val (.long p2), .second, .val (.long p3), .second, .val (.int p4), .val (.long x7_7), .second, .val (.long (f1 p2 x7_7 p4)), .second, .unset, .unset, .unset, .unset, .unset, .unset, .unset, .unset, .unset, .unset, .unset, .unset, .unset] []))
  obtain ⟨T2, h2, X2, e2, E2, A2, D2, -, st2⟩ := newO X1 hx hZ hown (hw _ (List.mem_of_getElem? (i := 5) rfl)) (hw _ (List.mem_of_getElem? (i := 6) rfl)) (hw _ (List.mem_of_getElem? (i := 7) rfl)) e1 (g := (mkF m 17 #[.val (.long p1), .second, .val (.long p2), .second, .val (.long p3), .second, .val (.int p4), .val (.long x7_7), .second, .val (.long (f1 p2 x7_7 p4)), .second, .unset, .unset, .unset, .unset, .unset, .unset, .unset, .unset, .unset, .unset, .unset, .unset, .unset] [])) rfl (hb hby at_17) (by decide) (by decide)
  obtain ⟨b2, q_b2⟩ : ∃ z, z = h0.size := ⟨_, rfl⟩
  rw [← q_b2] at A2 D2 st2
  have g_b2 : n0 ≤ b2 := Nat.le_trans Z0 (Nat.le_of_eq q_b2.symm)
  have Z_2 : n0 ≤ h2.size := Nat.le_trans Z0 E2.1
  have F_max_b2 : Fld Z h2 b2 "com/example/stringified_tags/stringifiedtags/TreeBudget" "max" "J" (.long (0 : Int64)) := D2 (Or.inr (hw _ (List.mem_of_getElem? (i := 15) rfl))) (ty := .long) (by decide)
  have F_left_b2 : Fld Z h2 b2 "com/example/stringified_tags/stringifiedtags/TreeBudget" "left" "J" (.long (0 : Int64)) := D2 (Or.inl (hw _ (List.mem_of_getElem? (i := 17) rfl))) (ty := .long) (by decide)
  refine A (st2 _) ?_
  show D (T2.setTop (mkF m 20 #[.val (.long p1), .second, .val (.long p2), .second, .val (.long p3), .second, .val (.int p4), .val (.long x7_7), .second, .val (.long (f1 p2 x7_7 p4)), .second, .unset, .unset, .unset, .unset, .unset, .unset, .unset, .unset, .unset, .unset, .unset, .unset, .unset] [(.ref b2)]))
  refine A (XS.dup X2.here hx rfl (hb hby at_20) rfl rfl) ?_
  show D (T2.setTop (mkF m 21 #[.val (.long p1), .second, .val (.long p2), .second, .val (.long p3), .second, .val (.int p4), .val (.long x7_7), .second, .val (.long (f1 p2 x7_7 p4)), .second, .unset, .unset, .unset, .unset, .unset, .unset, .unset, .unset, .unset, .unset, .unset, .unset, .unset] [(.ref b2), (.ref b2)]))
  refine A (XS.lload X2.here hx rfl (hb hby at_21) rfl) ?_
  show D (T2.setTop (mkF m 23 #[.val (.long p1), .second, .val (.long p2), .second, .val (.long p3), .second, .val (.int p4), .val (.long x7_7), .second, .val (.long (f1 p2 x7_7 p4)), .second, .unset, .unset, .unset, .unset, .unset, .unset, .unset, .unset, .unset, .unset, .unset, .unset, .unset] [(.long x7_7), (.ref b2), (.ref b2)]))
  refine Adv.callI A X2 hx hZ hown rfl (hw _ (List.mem_of_getElem? (i := 8) rfl)) (hw _ (List.mem_of_getElem? (i := 9) rfl)) (hw _ (List.mem_of_getElem? (i := 7) rfl)) (hw _ (List.mem_of_getElem? (i := 10) rfl)) e2 (rm2 l Z a0 hw [] b2 x7_7 h2 n0 Z_2 g_b2 A2 F_max_b2 F_left_b2) 1 (g := (mkF m 23 #[.val (.long p1), .second, .val (.long p2), .second, .val (.long p3), .second, .val (.int p4), .val (.long x7_7), .second, .val (.long (f1 p2 x7_7 p4)), .second, .unset, .unset, .unset, .unset, .unset, .unset, .unset, .unset, .unset, .unset, .unset, .unset, .unset] [(.long x7_7), (.ref b2), (.ref b2)])) rfl (by rw [hml]; rfl) b2 [(.long x7_7)] [(.ref b2)] rfl (lenOf pd0_1 rfl) rfl (by show 2 * 0 + _ ≤ _; exact Nat.le_of_eq rfl) (hb hby at_23) (by decide) (by decide) (by decide) (by decide) (by decide) ?_
  rintro T3 L3 _ X3 ⟨rfl, N3_q, K3, -, F3_l⟩
  have N3 := Fr.app N1 N3_q
  have E_b2_3 := A2.keep K3
  have Z_3 : n0 ≤ T3.heap.size := Nat.le_trans Z_2 K3.1
  show D (T3.setTop (mkF m 26 #[.val (.long p1), .second, .val (.long p2), .second, .val (.long p3), .second, .val (.int p4), .val (.long x7_7), .second, .val (.long (f1 p2 x7_7 p4)), .second, .unset, .unset, .unset, .unset, .unset, .unset, .unset, .unset, .unset, .unset, .unset, .unset, .unset] [(.ref b2)]))
  refine A (XS.astore X3.here hx rfl (hb hby at_26) rfl rfl (l' := #[.val (.long p1), .second, .val (.long p2), .second, .val (.long p3), .second, .val (.int p4), .val (.long x7_7), .second, .val (.long (f1 p2 x7_7 p4)), .second, .val (.ref b2), .unset, .unset, .unset, .unset, .unset, .unset, .unset, .unset, .unset, .unset, .unset, .unset]) rfl) ?_
  show D (T3.setTop (mkF m 28 #[.val (.long p1), .second, .val (.long p2), .second, .val (.long p3), .second, .val (.int p4), .val (.long x7_7), .second, .val (.long (f1 p2 x7_7 p4)), .second, .val (.ref b2), .unset, .unset, .unset, .unset, .unset, .unset, .unset, .unset, .unset, .unset, .unset, .unset] []))
  refine A (XS.aload X3.here hx rfl (hb hby at_28) rfl rfl) ?_
  show D (T3.setTop (mkF m 30 #[.val (.long p1), .second, .val (.long p2), .second, .val (.long p3), .second, .val (.int p4), .val (.long x7_7), .second, .val (.long (f1 p2 x7_7 p4)), .second, .val (.ref b2), .unset, .unset, .unset, .unset, .unset, .unset, .unset, .unset, .unset, .unset, .unset, .unset] [(.ref b2)]))
  refine A (XS.lload X3.here hx rfl (hb hby at_30) rfl) ?_
  show D (T3.setTop (mkF m 32 #[.val (.long p1), .second, .val (.long p2), .second, .val (.long p3), .second, .val (.int p4), .val (.long x7_7), .second, .val (.long (f1 p2 x7_7 p4)), .second, .val (.ref b2), .unset, .unset, .unset, .unset, .unset, .unset, .unset, .unset, .unset, .unset, .unset, .unset] [(.long (f1 p2 x7_7 p4)), (.ref b2)]))
  refine Adv.callV A X3 hx hZ hown (hw _ (List.mem_of_getElem? (i := 18) rfl)) (hw _ (List.mem_of_getElem? (i := 19) rfl)) (notFace_of_selects (args := #[]) (mvT hZ (hw _ (List.mem_of_getElem? (i := 21) rfl)))) (hw _ (List.mem_of_getElem? (i := 21) rfl)) (hw _ (List.mem_of_getElem? (i := 20) rfl)) (hw _ (List.mem_of_getElem? (i := 7) rfl)) (hw _ (List.mem_of_getElem? (i := 22) rfl)) rfl E_b2_3 (rm4 l Z a0 hw [] b2 (f1 p2 x7_7 p4) T3.heap n0 x7_7 Z_3 g_b2 E_b2_3 F3_l) 0 (g := (mkF m 32 #[.val (.long p1), .second, .val (.long p2), .second, .val (.long p3), .second, .val (.int p4), .val (.long x7_7), .second, .val (.long (f1 p2 x7_7 p4)), .second, .val (.ref b2), .unset, .unset, .unset, .unset, .unset, .unset, .unset, .unset, .unset, .unset, .unset, .unset] [(.long (f1 p2 x7_7 p4)), (.ref b2)])) rfl (by rw [hml]; rfl) [(.long (f1 p2 x7_7 p4))] [] rfl (lenOf pd0_2 rfl) rfl (by show 2 * 0 + _ ≤ _; exact Nat.le_of_eq rfl) (hb hby at_32) (by decide) (by decide) (by decide) (by decide) (by decide) ?_
  rintro T4 L4 _ X4 ⟨rfl, N4_q, K4, -, F4_l⟩
  have N4 := Fr.app N3 N4_q
  have E_b2_4 := E_b2_3.keep K4
  have Z_4 : n0 ≤ T4.heap.size := Nat.le_trans Z_3 K4.1
  show D (T4.setTop (mkF m 35 #[.val (.long p1), .second, .val (.long p2), .second, .val (.long p3), .second, .val (.int p4), .val (.long x7_7), .second, .val (.long (f1 p2 x7_7 p4)), .second, .val (.ref b2), .unset, .unset, .unset, .unset, .unset, .unset, .unset, .unset, .unset, .unset, .unset, .unset] [(.int (own_tk x7_7 (f1 p2 x7_7 p4)))]))
  refine A (XS.istore X4.here hx rfl (hb hby at_35) rfl (l' := #[.val (.long p1), .second, .val (.long p2), .second, .val (.long p3), .second, .val (.int p4), .val (.long x7_7), .second, .val (.long (f1 p2 x7_7 p4)), .second, .val (.ref b2), .val (.int (own_tk x7_7 (f1 p2 x7_7 p4))), .unset, .unset, .unset, .unset, .unset, .unset, .unset, .unset, .unset, .unset, .unset]) rfl) ?_
  show D (T4.setTop (mkF m 37 #[.val (.long p1), .second, .val (.long p2), .second, .val (.long p3), .second, .val (.int p4), .val (.long x7_7), .second, .val (.long (f1 p2 x7_7 p4)), .second, .val (.ref b2), .val (.int (own_tk x7_7 (f1 p2 x7_7 p4))), .unset, .unset, .unset, .unset, .unset, .unset, .unset, .unset, .unset, .unset, .unset] []))
  suffices Kx12_37 : ∀ x12_37 : Int32, x12_37 = (own_tk x7_7 (f1 p2 x7_7 p4)) → D (T4.setTop (mkF m 37 #[.val (.long p1), .second, .val (.long p2), .second, .val (.long p3), .second, .val (.int p4), .val (.long x7_7), .second, .val (.long (f1 p2 x7_7 p4)), .second, .val (.ref b2), .val (.int x12_37), .unset, .unset, .unset, .unset, .unset, .unset, .unset, .unset, .unset, .unset, .unset] [])) from Kx12_37 _ rfl
  intro x12_37 hx12_37
  refine A (XS.lload X4.here hx rfl (hb hby at_37) rfl) ?_
  show D (T4.setTop (mkF m 39 #[.val (.long p1), .second, .val (.long p2), .second, .val (.long p3), .second, .val (.int p4), .val (.long x7_7), .second, .val (.long (f1 p2 x7_7 p4)), .second, .val (.ref b2), .val (.int x12_37), .unset, .unset, .unset, .unset, .unset, .unset, .unset, .unset, .unset, .unset, .unset] [(.long (f1 p2 x7_7 p4))]))
  refine A (XS.lload X4.here hx rfl (hb hby at_39) rfl) ?_
  show D (T4.setTop (mkF m 41 #[.val (.long p1), .second, .val (.long p2), .second, .val (.long p3), .second, .val (.int p4), .val (.long x7_7), .second, .val (.long (f1 p2 x7_7 p4)), .second, .val (.ref b2), .val (.int x12_37), .unset, .unset, .unset, .unset, .unset, .unset, .unset, .unset, .unset, .unset, .unset] [(.long x7_7), (.long (f1 p2 x7_7 p4))]))
  refine A (XS.lcmp X4.here hx rfl (hb hby at_41) rfl) ?_
  show D (T4.setTop (mkF m 42 #[.val (.long p1), .second, .val (.long p2), .second, .val (.long p3), .second, .val (.int p4), .val (.long x7_7), .second, .val (.long (f1 p2 x7_7 p4)), .second, .val (.ref b2), .val (.int x12_37), .unset, .unset, .unset, .unset, .unset, .unset, .unset, .unset, .unset, .unset, .unset] [(.int (lcmpW (f1 p2 x7_7 p4) x7_7))]))
  suffices Km50_5 : ∀ (v50s0 : Int32), v50s0 = (if (0 : Int32) < (lcmpW (f1 p2 x7_7 p4) x7_7) then (0 : Int32) else (1 : Int32)) → D (T4.setTop (mkF m 50 #[.val (.long p1), .second, .val (.long p2), .second, .val (.long p3), .second, .val (.int p4), .val (.long x7_7), .second, .val (.long (f1 p2 x7_7 p4)), .second, .val (.ref b2), .val (.int x12_37), .unset, .unset, .unset, .unset, .unset, .unset, .unset, .unset, .unset, .unset, .unset] [(.int v50s0)])) by
    by_cases c42_0 : (0 : Int32) < (lcmpW (f1 p2 x7_7 p4) x7_7)
    · refine A (XS.ifYes X4.here hx rfl (pc0 := 42) (pc' := 49) rfl (hb hby at_42) rfl ((if0 _ _).trans (tlt c42_0).2.2.1) (by decide) (by decide)) ?_
      show D (T4.setTop (mkF m 49 #[.val (.long p1), .second, .val (.long p2), .second, .val (.long p3), .second, .val (.int p4), .val (.long x7_7), .second, .val (.long (f1 p2 x7_7 p4)), .second, .val (.ref b2), .val (.int x12_37), .unset, .unset, .unset, .unset, .unset, .unset, .unset, .unset, .unset, .unset, .unset] []))
      refine A (XS.iconst X4.here hx rfl (hb hby at_49)) ?_
      show D (T4.setTop (mkF m 50 #[.val (.long p1), .second, .val (.long p2), .second, .val (.long p3), .second, .val (.int p4), .val (.long x7_7), .second, .val (.long (f1 p2 x7_7 p4)), .second, .val (.ref b2), .val (.int x12_37), .unset, .unset, .unset, .unset, .unset, .unset, .unset, .unset, .unset, .unset, .unset] [(.int (0 : Int32))]))
      exact Km50_5 _ ((if_pos c42_0)).symm
    · refine A (XS.ifNo X4.here hx rfl (hb hby at_42) rfl ((if0 _ _).trans (flt c42_0).2.2.1)) ?_
      show D (T4.setTop (mkF m 45 #[.val (.long p1), .second, .val (.long p2), .second, .val (.long p3), .second, .val (.int p4), .val (.long x7_7), .second, .val (.long (f1 p2 x7_7 p4)), .second, .val (.ref b2), .val (.int x12_37), .unset, .unset, .unset, .unset, .unset, .unset, .unset, .unset, .unset, .unset, .unset] []))
      refine A (XS.iconst X4.here hx rfl (hb hby at_45)) ?_
      show D (T4.setTop (mkF m 46 #[.val (.long p1), .second, .val (.long p2), .second, .val (.long p3), .second, .val (.int p4), .val (.long x7_7), .second, .val (.long (f1 p2 x7_7 p4)), .second, .val (.ref b2), .val (.int x12_37), .unset, .unset, .unset, .unset, .unset, .unset, .unset, .unset, .unset, .unset, .unset] [(.int (1 : Int32))]))
      refine A (XS.goto X4.here hx rfl (pc0 := 46) (pc' := 50) rfl (hb hby at_46) (by decide) (by decide)) ?_
      show D (T4.setTop (mkF m 50 #[.val (.long p1), .second, .val (.long p2), .second, .val (.long p3), .second, .val (.int p4), .val (.long x7_7), .second, .val (.long (f1 p2 x7_7 p4)), .second, .val (.ref b2), .val (.int x12_37), .unset, .unset, .unset, .unset, .unset, .unset, .unset, .unset, .unset, .unset, .unset] [(.int (1 : Int32))]))
      exact Km50_5 _ ((if_neg c42_0)).symm
  intro v50s0 hv50s0
  show D (T4.setTop (mkF m 50 #[.val (.long p1), .second, .val (.long p2), .second, .val (.long p3), .second, .val (.int p4), .val (.long x7_7), .second, .val (.long (f1 p2 x7_7 p4)), .second, .val (.ref b2), .val (.int x12_37), .unset, .unset, .unset, .unset, .unset, .unset, .unset, .unset, .unset, .unset, .unset] [(.int v50s0)]))
  refine A (XS.istore X4.here hx rfl (hb hby at_50) rfl (l' := #[.val (.long p1), .second, .val (.long p2), .second, .val (.long p3), .second, .val (.int p4), .val (.long x7_7), .second, .val (.long (f1 p2 x7_7 p4)), .second, .val (.ref b2), .val (.int x12_37), .val (.int v50s0), .unset, .unset, .unset, .unset, .unset, .unset, .unset, .unset, .unset, .unset]) rfl) ?_
  show D (T4.setTop (mkF m 52 #[.val (.long p1), .second, .val (.long p2), .second, .val (.long p3), .second, .val (.int p4), .val (.long x7_7), .second, .val (.long (f1 p2 x7_7 p4)), .second, .val (.ref b2), .val (.int x12_37), .val (.int v50s0), .unset, .unset, .unset, .unset, .unset, .unset, .unset, .unset, .unset, .unset] []))
  refine A (XS.iload X4.here hx rfl (hb hby at_52) rfl) ?_
  show D (T4.setTop (mkF m 54 #[.val (.long p1), .second, .val (.long p2), .second, .val (.long p3), .second, .val (.int p4), .val (.long x7_7), .second, .val (.long (f1 p2 x7_7 p4)), .second, .val (.ref b2), .val (.int x12_37), .val (.int v50s0), .unset, .unset, .unset, .unset, .unset, .unset, .unset, .unset, .unset, .unset] [(.int v50s0)]))
  suffices Km67_6 : ∀ (v67s0 : Int64), v67s0 = (if v50s0 = (0 : Int32) then x7_7 else (x7_7 - (f1 p2 x7_7 p4))) → D (T4.setTop (mkF m 67 #[.val (.long p1), .second, .val (.long p2), .second, .val (.long p3), .second, .val (.int p4), .val (.long x7_7), .second, .val (.long (f1 p2 x7_7 p4)), .second, .val (.ref b2), .val (.int x12_37), .val (.int v50s0), .unset, .unset, .unset, .unset, .unset, .unset, .unset, .unset, .unset, .unset] [(.long v67s0)])) by
    by_cases c54_0 : v50s0 = (0 : Int32)
    · refine A (XS.ifYes X4.here hx rfl (pc0 := 54) (pc' := 65) rfl (hb hby at_54) rfl ((if0 _ _).trans (teq c54_0).1) (by decide) (by decide)) ?_
      show D (T4.setTop (mkF m 65 #[.val (.long p1), .second, .val (.long p2), .second, .val (.long p3), .second, .val (.int p4), .val (.long x7_7), .second, .val (.long (f1 p2 x7_7 p4)), .second, .val (.ref b2), .val (.int x12_37), .val (.int v50s0), .unset, .unset, .unset, .unset, .unset, .unset, .unset, .unset, .unset, .unset] []))
      refine A (XS.lload X4.here hx rfl (hb hby at_65) rfl) ?_
      show D (T4.setTop (mkF m 67 #[.val (.long p1), .second, .val (.long p2), .second, .val (.long p3), .second, .val (.int p4), .val (.long x7_7), .second, .val (.long (f1 p2 x7_7 p4)), .second, .val (.ref b2), .val (.int x12_37), .val (.int v50s0), .unset, .unset, .unset, .unset, .unset, .unset, .unset, .unset, .unset, .unset] [(.long x7_7)]))
      exact Km67_6 _ ((if_pos c54_0)).symm
    · refine A (XS.ifNo X4.here hx rfl (hb hby at_54) rfl ((if0 _ _).trans (feq c54_0).1)) ?_
      show D (T4.setTop (mkF m 57 #[.val (.long p1), .second, .val (.long p2), .second, .val (.long p3), .second, .val (.int p4), .val (.long x7_7), .second, .val (.long (f1 p2 x7_7 p4)), .second, .val (.ref b2), .val (.int x12_37), .val (.int v50s0), .unset, .unset, .unset, .unset, .unset, .unset, .unset, .unset, .unset, .unset] []))
      refine A (XS.lload X4.here hx rfl (hb hby at_57) rfl) ?_
      show D (T4.setTop (mkF m 59 #[.val (.long p1), .second, .val (.long p2), .second, .val (.long p3), .second, .val (.int p4), .val (.long x7_7), .second, .val (.long (f1 p2 x7_7 p4)), .second, .val (.ref b2), .val (.int x12_37), .val (.int v50s0), .unset, .unset, .unset, .unset, .unset, .unset, .unset, .unset, .unset, .unset] [(.long x7_7)]))
      refine A (XS.lload X4.here hx rfl (hb hby at_59) rfl) ?_
      show D (T4.setTop (mkF m 61 #[.val (.long p1), .second, .val (.long p2), .second, .val (.long p3), .second, .val (.int p4), .val (.long x7_7), .second, .val (.long (f1 p2 x7_7 p4)), .second, .val (.ref b2), .val (.int x12_37), .val (.int v50s0), .unset, .unset, .unset, .unset, .unset, .unset, .unset, .unset, .unset, .unset] [(.long (f1 p2 x7_7 p4)), (.long x7_7)]))
      refine A (XS.lsub X4.here hx rfl (hb hby at_61) rfl) ?_
      show D (T4.setTop (mkF m 62 #[.val (.long p1), .second, .val (.long p2), .second, .val (.long p3), .second, .val (.int p4), .val (.long x7_7), .second, .val (.long (f1 p2 x7_7 p4)), .second, .val (.ref b2), .val (.int x12_37), .val (.int v50s0), .unset, .unset, .unset, .unset, .unset, .unset, .unset, .unset, .unset, .unset] [(.long (x7_7 - (f1 p2 x7_7 p4)))]))
      refine A (XS.goto X4.here hx rfl (pc0 := 62) (pc' := 67) rfl (hb hby at_62) (by decide) (by decide)) ?_
      show D (T4.setTop (mkF m 67 #[.val (.long p1), .second, .val (.long p2), .second, .val (.long p3), .second, .val (.int p4), .val (.long x7_7), .second, .val (.long (f1 p2 x7_7 p4)), .second, .val (.ref b2), .val (.int x12_37), .val (.int v50s0), .unset, .unset, .unset, .unset, .unset, .unset, .unset, .unset, .unset, .unset] [(.long (x7_7 - (f1 p2 x7_7 p4)))]))
      exact Km67_6 _ ((if_neg c54_0)).symm
  intro v67s0 hv67s0
  show D (T4.setTop (mkF m 67 #[.val (.long p1), .second, .val (.long p2), .second, .val (.long p3), .second, .val (.int p4), .val (.long x7_7), .second, .val (.long (f1 p2 x7_7 p4)), .second, .val (.ref b2), .val (.int x12_37), .val (.int v50s0), .unset, .unset, .unset, .unset, .unset, .unset, .unset, .unset, .unset, .unset] [(.long v67s0)]))
  refine A (XS.lstore X4.here hx rfl (hb hby at_67) rfl (l' := #[.val (.long p1), .second, .val (.long p2), .second, .val (.long p3), .second, .val (.int p4), .val (.long x7_7), .second, .val (.long (f1 p2 x7_7 p4)), .second, .val (.ref b2), .val (.int x12_37), .val (.int v50s0), .val (.long v67s0), .second, .unset, .unset, .unset, .unset, .unset, .unset, .unset, .unset]) rfl) ?_
  show D (T4.setTop (mkF m 69 #[.val (.long p1), .second, .val (.long p2), .second, .val (.long p3), .second, .val (.int p4), .val (.long x7_7), .second, .val (.long (f1 p2 x7_7 p4)), .second, .val (.ref b2), .val (.int x12_37), .val (.int v50s0), .val (.long v67s0), .second, .unset, .unset, .unset, .unset, .unset, .unset, .unset, .unset] []))
  refine A (XS.lload X4.here hx rfl (hb hby at_69) rfl) ?_
  show D (T4.setTop (mkF m 71 #[.val (.long p1), .second, .val (.long p2), .second, .val (.long p3), .second, .val (.int p4), .val (.long x7_7), .second, .val (.long (f1 p2 x7_7 p4)), .second, .val (.ref b2), .val (.int x12_37), .val (.int v50s0), .val (.long v67s0), .second, .unset, .unset, .unset, .unset, .unset, .unset, .unset, .unset] [(.long p3)]))
  refine A (XS.lload X4.here hx rfl (hb hby at_71) rfl) ?_
  show D (T4.setTop (mkF m 73 #[.val (.long p1), .second, .val (.long p2), .second, .val (.long p3), .second, .val (.int p4), .val (.long x7_7), .second, .val (.long (f1 p2 x7_7 p4)), .second, .val (.ref b2), .val (.int x12_37), .val (.int v50s0), .val (.long v67s0), .second, .unset, .unset, .unset, .unset, .unset, .unset, .unset, .unset] [(.long v67s0), (.long p3)]))
  refine A (XS.iload X4.here hx rfl (hb hby at_73) rfl) ?_
  show D (T4.setTop (mkF m 75 #[.val (.long p1), .second, .val (.long p2), .second, .val (.long p3), .second, .val (.int p4), .val (.long x7_7), .second, .val (.long (f1 p2 x7_7 p4)), .second, .val (.ref b2), .val (.int x12_37), .val (.int v50s0), .val (.long v67s0), .second, .unset, .unset, .unset, .unset, .unset, .unset, .unset, .unset] [(.int p4), (.long v67s0), (.long p3)]))
  refine A (XS.iconst X4.here hx rfl (hb hby at_75)) ?_
  show D (T4.setTop (mkF m 76 #[.val (.long p1), .second, .val (.long p2), .second, .val (.long p3), .second, .val (.int p4), .val (.long x7_7), .second, .val (.long (f1 p2 x7_7 p4)), .second, .val (.ref b2), .val (.int x12_37), .val (.int v50s0), .val (.long v67s0), .second, .unset, .unset, .unset, .unset, .unset, .unset, .unset, .unset] [(.int (3 : Int32)), (.int p4), (.long v67s0), (.long p3)]))
  refine A (XS.ishr X4.here hx rfl (hb hby at_76) rfl) ?_
  show D (T4.setTop (mkF m 77 #[.val (.long p1), .second, .val (.long p2), .second, .val (.long p3), .second, .val (.int p4), .val (.long x7_7), .second, .val (.long (f1 p2 x7_7 p4)), .second, .val (.ref b2), .val (.int x12_37), .val (.int v50s0), .val (.long v67s0), .second, .unset, .unset, .unset, .unset, .unset, .unset, .unset, .unset] [(.int (p4 >>> ((3 : Int32) &&& 31))), (.long v67s0), (.long p3)]))
  refine Adv.callS A X4 hx hZ hown (hw _ (List.mem_of_getElem? (i := 1) rfl)) (hw _ (List.mem_of_getElem? (i := 2) rfl)) (hw _ (List.mem_of_getElem? (i := 3) rfl)) (hw _ (List.mem_of_getElem? (i := 4) rfl)) rfl (rm1 l Z a0 hw [] p3 v67s0 (p4 >>> ((3 : Int32) &&& 31)) T4.heap n0) 0 (g := (mkF m 77 #[.val (.long p1), .second, .val (.long p2), .second, .val (.long p3), .second, .val (.int p4), .val (.long x7_7), .second, .val (.long (f1 p2 x7_7 p4)), .second, .val (.ref b2), .val (.int x12_37), .val (.int v50s0), .val (.long v67s0), .second, .unset, .unset, .unset, .unset, .unset, .unset, .unset, .unset] [(.int (p4 >>> ((3 : Int32) &&& 31))), (.long v67s0), (.long p3)])) rfl (by rw [hml]; rfl) [(.long p3), (.long v67s0), (.int (p4 >>> ((3 : Int32) &&& 31)))] [] rfl (lenOf pd0_0 rfl) rfl (by show 2 * 0 + _ ≤ _; exact Nat.le_of_eq rfl) (hb hby at_77) (by decide) (by decide) (by decide) (by decide) (by decide) ?_
  rintro T7 L7 _ X7 ⟨rfl, N7_q, e7⟩
  have N7 := Fr.app N4 N7_q
  show D (T7.setTop (mkF m 80 #[.val (.long p1), .second, .val (.long p2), .second, .val (.long p3), .second, .val (.int p4), .val (.long x7_7), .second, .val (.long (f1 p2 x7_7 p4)), .second, .val (.ref b2), .val (.int x12_37), .val (.int v50s0), .val (.long v67s0), .second, .unset, .unset, .unset, .unset, .unset, .unset, .unset, .unset] [(.long (f1 p3 v67s0 (p4 >>> ((3 : Int32) &&& 31))))]))
  refine A (XS.lstore X7.here hx rfl (hb hby at_80) rfl (l' := #[.val (.long p1), .second, .val (.long p2), .second, .val (.long p3), .second, .val (.int p4), .val (.long x7_7), .second, .val (.long (f1 p2 x7_7 p4)), .second, .val (.ref b2), .val (.int x12_37), .val (.int v50s0), .val (.long v67s0), .second, .val (.long (f1 p3 v67s0 (p4 >>> ((3 : Int32) &&& 31)))), .second, .unset, .unset, .unset, .unset, .unset, .unset]) rfl) ?_
  show D (T7.setTop (mkF m 82 #[.val (.long p1), .second, .val (.long p2), .second, .val (.long p3), .second, .val (.int p4), .val (.long x7_7), .second, .val (.long (f1 p2 x7_7 p4)), .second, .val (.ref b2), .val (.int x12_37), .val (.int v50s0), .val (.long v67s0), .second, .val (.long (f1 p3 v67s0 (p4 >>> ((3 : Int32) &&& 31)))), .second, .unset, .unset, .unset, .unset, .unset, .unset] []))
  suffices Kx16_82 : ∀ x16_82 : Int64, x16_82 = (f1 p3 v67s0 (p4 >>> ((3 : Int32) &&& 31))) → D (T7.setTop (mkF m 82 #[.val (.long p1), .second, .val (.long p2), .second, .val (.long p3), .second, .val (.int p4), .val (.long x7_7), .second, .val (.long (f1 p2 x7_7 p4)), .second, .val (.ref b2), .val (.int x12_37), .val (.int v50s0), .val (.long v67s0), .second, .val (.long x16_82), .second, .unset, .unset, .unset, .unset, .unset, .unset] [])) from Kx16_82 _ rfl
  intro x16_82 hx16_82
  refine A (XS.aload X7.here hx rfl (hb hby at_82) rfl rfl) ?_
  show D (T7.setTop (mkF m 84 #[.val (.long p1), .second, .val (.long p2), .second, .val (.long p3), .second, .val (.int p4), .val (.long x7_7), .second, .val (.long (f1 p2 x7_7 p4)), .second, .val (.ref b2), .val (.int x12_37), .val (.int v50s0), .val (.long v67s0), .second, .val (.long x16_82), .second, .unset, .unset, .unset, .unset, .unset, .unset] [(.ref b2)]))
  refine A (XS.lload X7.here hx rfl (hb hby at_84) rfl) ?_
  show D (T7.setTop (mkF m 86 #[.val (.long p1), .second, .val (.long p2), .second, .val (.long p3), .second, .val (.int p4), .val (.long x7_7), .second, .val (.long (f1 p2 x7_7 p4)), .second, .val (.ref b2), .val (.int x12_37), .val (.int v50s0), .val (.long v67s0), .second, .val (.long x16_82), .second, .unset, .unset, .unset, .unset, .unset, .unset] [(.long x16_82), (.ref b2)]))
  refine Adv.callV A X7 hx hZ hown (hw _ (List.mem_of_getElem? (i := 18) rfl)) (hw _ (List.mem_of_getElem? (i := 19) rfl)) (notFace_of_selects (args := #[]) (mvT hZ (hw _ (List.mem_of_getElem? (i := 21) rfl)))) (hw _ (List.mem_of_getElem? (i := 21) rfl)) (hw _ (List.mem_of_getElem? (i := 20) rfl)) (hw _ (List.mem_of_getElem? (i := 7) rfl)) (hw _ (List.mem_of_getElem? (i := 22) rfl)) e7 E_b2_4 (rm4 l Z a0 hw [] b2 x16_82 T4.heap n0 (own_lf x7_7 (f1 p2 x7_7 p4)) Z_4 g_b2 E_b2_4 F4_l) 0 (g := (mkF m 86 #[.val (.long p1), .second, .val (.long p2), .second, .val (.long p3), .second, .val (.int p4), .val (.long x7_7), .second, .val (.long (f1 p2 x7_7 p4)), .second, .val (.ref b2), .val (.int x12_37), .val (.int v50s0), .val (.long v67s0), .second, .val (.long x16_82), .second, .unset, .unset, .unset, .unset, .unset, .unset] [(.long x16_82), (.ref b2)])) rfl (by rw [hml]; rfl) [(.long x16_82)] [] rfl (lenOf pd0_2 rfl) rfl (by show 2 * 0 + _ ≤ _; exact Nat.le_of_eq rfl) (hb hby at_86) (by decide) (by decide) (by decide) (by decide) (by decide) ?_
  rintro T8 L8 _ X8 ⟨rfl, N8_q, K8, -, F8_l⟩
  have N8 := Fr.app N7 N8_q
  have E_b2_8 := E_b2_4.keep K8
  have Z_8 : n0 ≤ T8.heap.size := Nat.le_trans Z_4 K8.1
  show D (T8.setTop (mkF m 89 #[.val (.long p1), .second, .val (.long p2), .second, .val (.long p3), .second, .val (.int p4), .val (.long x7_7), .second, .val (.long (f1 p2 x7_7 p4)), .second, .val (.ref b2), .val (.int x12_37), .val (.int v50s0), .val (.long v67s0), .second, .val (.long x16_82), .second, .unset, .unset, .unset, .unset, .unset, .unset] [(.int (own_tk (own_lf x7_7 (f1 p2 x7_7 p4)) x16_82))]))
  refine A (XS.istore X8.here hx rfl (hb hby at_89) rfl (l' := #[.val (.long p1), .second, .val (.long p2), .second, .val (.long p3), .second, .val (.int p4), .val (.long x7_7), .second, .val (.long (f1 p2 x7_7 p4)), .second, .val (.ref b2), .val (.int x12_37), .val (.int v50s0), .val (.long v67s0), .second, .val (.long x16_82), .second, .val (.int (own_tk (own_lf x7_7 (f1 p2 x7_7 p4)) x16_82)), .unset, .unset, .unset, .unset, .unset]) rfl) ?_
  show D (T8.setTop (mkF m 91 #[.val (.long p1), .second, .val (.long p2), .second, .val (.long p3), .second, .val (.int p4), .val (.long x7_7), .second, .val (.long (f1 p2 x7_7 p4)), .second, .val (.ref b2), .val (.int x12_37), .val (.int v50s0), .val (.long v67s0), .second, .val (.long x16_82), .second, .val (.int (own_tk (own_lf x7_7 (f1 p2 x7_7 p4)) x16_82)), .unset, .unset, .unset, .unset, .unset] []))
  suffices Kx18_91 : ∀ x18_91 : Int32, x18_91 = (own_tk (own_lf x7_7 (f1 p2 x7_7 p4)) x16_82) → D (T8.setTop (mkF m 91 #[.val (.long p1), .second, .val (.long p2), .second, .val (.long p3), .second, .val (.int p4), .val (.long x7_7), .second, .val (.long (f1 p2 x7_7 p4)), .second, .val (.ref b2), .val (.int x12_37), .val (.int v50s0), .val (.long v67s0), .second, .val (.long x16_82), .second, .val (.int x18_91), .unset, .unset, .unset, .unset, .unset] [])) from Kx18_91 _ rfl
  intro x18_91 hx18_91
  refine A (XS.lload X8.here hx rfl (hb hby at_91) rfl) ?_
  show D (T8.setTop (mkF m 93 #[.val (.long p1), .second, .val (.long p2), .second, .val (.long p3), .second, .val (.int p4), .val (.long x7_7), .second, .val (.long (f1 p2 x7_7 p4)), .second, .val (.ref b2), .val (.int x12_37), .val (.int v50s0), .val (.long v67s0), .second, .val (.long x16_82), .second, .val (.int x18_91), .unset, .unset, .unset, .unset, .unset] [(.long x16_82)]))
  refine A (XS.lload X8.here hx rfl (hb hby at_93) rfl) ?_
  show D (T8.setTop (mkF m 95 #[.val (.long p1), .second, .val (.long p2), .second, .val (.long p3), .second, .val (.int p4), .val (.long x7_7), .second, .val (.long (f1 p2 x7_7 p4)), .second, .val (.ref b2), .val (.int x12_37), .val (.int v50s0), .val (.long v67s0), .second, .val (.long x16_82), .second, .val (.int x18_91), .unset, .unset, .unset, .unset, .unset] [(.long v67s0), (.long x16_82)]))
  refine A (XS.lcmp X8.here hx rfl (hb hby at_95) rfl) ?_
  show D (T8.setTop (mkF m 96 #[.val (.long p1), .second, .val (.long p2), .second, .val (.long p3), .second, .val (.int p4), .val (.long x7_7), .second, .val (.long (f1 p2 x7_7 p4)), .second, .val (.ref b2), .val (.int x12_37), .val (.int v50s0), .val (.long v67s0), .second, .val (.long x16_82), .second, .val (.int x18_91), .unset, .unset, .unset, .unset, .unset] [(.int (lcmpW x16_82 v67s0))]))
  suffices Km104_9 : ∀ (v104s0 : Int32), v104s0 = (if (0 : Int32) < (lcmpW x16_82 v67s0) then (0 : Int32) else (1 : Int32)) → D (T8.setTop (mkF m 104 #[.val (.long p1), .second, .val (.long p2), .second, .val (.long p3), .second, .val (.int p4), .val (.long x7_7), .second, .val (.long (f1 p2 x7_7 p4)), .second, .val (.ref b2), .val (.int x12_37), .val (.int v50s0), .val (.long v67s0), .second, .val (.long x16_82), .second, .val (.int x18_91), .unset, .unset, .unset, .unset, .unset] [(.int v104s0)])) by
    by_cases c96_0 : (0 : Int32) < (lcmpW x16_82 v67s0)
    · refine A (XS.ifYes X8.here hx rfl (pc0 := 96) (pc' := 103) rfl (hb hby at_96) rfl ((if0 _ _).trans (tlt c96_0).2.2.1) (by decide) (by decide)) ?_
      show D (T8.setTop (mkF m 103 #[.val (.long p1), .second, .val (.long p2), .second, .val (.long p3), .second, .val (.int p4), .val (.long x7_7), .second, .val (.long (f1 p2 x7_7 p4)), .second, .val (.ref b2), .val (.int x12_37), .val (.int v50s0), .val (.long v67s0), .second, .val (.long x16_82), .second, .val (.int x18_91), .unset, .unset, .unset, .unset, .unset] []))
      refine A (XS.iconst X8.here hx rfl (hb hby at_103)) ?_
      show D (T8.setTop (mkF m 104 #[.val (.long p1), .second, .val (.long p2), .second, .val (.long p3), .second, .val (.int p4), .val (.long x7_7), .second, .val (.long (f1 p2 x7_7 p4)), .second, .val (.ref b2), .val (.int x12_37), .val (.int v50s0), .val (.long v67s0), .second, .val (.long x16_82), .second, .val (.int x18_91), .unset, .unset, .unset, .unset, .unset] [(.int (0 : Int32))]))
      exact Km104_9 _ ((if_pos c96_0)).symm
    · refine A (XS.ifNo X8.here hx rfl (hb hby at_96) rfl ((if0 _ _).trans (flt c96_0).2.2.1)) ?_
      show D (T8.setTop (mkF m 99 #[.val (.long p1), .second, .val (.long p2), .second, .val (.long p3), .second, .val (.int p4), .val (.long x7_7), .second, .val (.long (f1 p2 x7_7 p4)), .second, .val (.ref b2), .val (.int x12_37), .val (.int v50s0), .val (.long v67s0), .second, .val (.long x16_82), .second, .val (.int x18_91), .unset, .unset, .unset, .unset, .unset] []))
      refine A (XS.iconst X8.here hx rfl (hb hby at_99)) ?_
      show D (T8.setTop (mkF m 100 #[.val (.long p1), .second, .val (.long p2), .second, .val (.long p3), .second, .val (.int p4), .val (.long x7_7), .second, .val (.long (f1 p2 x7_7 p4)), .second, .val (.ref b2), .val (.int x12_37), .val (.int v50s0), .val (.long v67s0), .second, .val (.long x16_82), .second, .val (.int x18_91), .unset, .unset, .unset, .unset, .unset] [(.int (1 : Int32))]))
      refine A (XS.goto X8.here hx rfl (pc0 := 100) (pc' := 104) rfl (hb hby at_100) (by decide) (by decide)) ?_
      show D (T8.setTop (mkF m 104 #[.val (.long p1), .second, .val (.long p2), .second, .val (.long p3), .second, .val (.int p4), .val (.long x7_7), .second, .val (.long (f1 p2 x7_7 p4)), .second, .val (.ref b2), .val (.int x12_37), .val (.int v50s0), .val (.long v67s0), .second, .val (.long x16_82), .second, .val (.int x18_91), .unset, .unset, .unset, .unset, .unset] [(.int (1 : Int32))]))
      exact Km104_9 _ ((if_neg c96_0)).symm
  intro v104s0 hv104s0
  show D (T8.setTop (mkF m 104 #[.val (.long p1), .second, .val (.long p2), .second, .val (.long p3), .second, .val (.int p4), .val (.long x7_7), .second, .val (.long (f1 p2 x7_7 p4)), .second, .val (.ref b2), .val (.int x12_37), .val (.int v50s0), .val (.long v67s0), .second, .val (.long x16_82), .second, .val (.int x18_91), .unset, .unset, .unset, .unset, .unset] [(.int v104s0)]))
  refine A (XS.istore X8.here hx rfl (hb hby at_104) rfl (l' := #[.val (.long p1), .second, .val (.long p2), .second, .val (.long p3), .second, .val (.int p4), .val (.long x7_7), .second, .val (.long (f1 p2 x7_7 p4)), .second, .val (.ref b2), .val (.int x12_37), .val (.int v50s0), .val (.long v67s0), .second, .val (.long x16_82), .second, .val (.int x18_91), .val (.int v104s0), .unset, .unset, .unset, .unset]) rfl) ?_
  show D (T8.setTop (mkF m 106 #[.val (.long p1), .second, .val (.long p2), .second, .val (.long p3), .second, .val (.int p4), .val (.long x7_7), .second, .val (.long (f1 p2 x7_7 p4)), .second, .val (.ref b2), .val (.int x12_37), .val (.int v50s0), .val (.long v67s0), .second, .val (.long x16_82), .second, .val (.int x18_91), .val (.int v104s0), .unset, .unset, .unset, .unset] []))
  refine A (XS.iload X8.here hx rfl (hb hby at_106) rfl) ?_
  show D (T8.setTop (mkF m 108 #[.val (.long p1), .second, .val (.long p2), .second, .val (.long p3), .second, .val (.int p4), .val (.long x7_7), .second, .val (.long (f1 p2 x7_7 p4)), .second, .val (.ref b2), .val (.int x12_37), .val (.int v50s0), .val (.long v67s0), .second, .val (.long x16_82), .second, .val (.int x18_91), .val (.int v104s0), .unset, .unset, .unset, .unset] [(.int v104s0)]))
  suffices Km121_10 : ∀ (v121s0 : Int64), v121s0 = (if v104s0 = (0 : Int32) then v67s0 else (v67s0 - x16_82)) → D (T8.setTop (mkF m 121 #[.val (.long p1), .second, .val (.long p2), .second, .val (.long p3), .second, .val (.int p4), .val (.long x7_7), .second, .val (.long (f1 p2 x7_7 p4)), .second, .val (.ref b2), .val (.int x12_37), .val (.int v50s0), .val (.long v67s0), .second, .val (.long x16_82), .second, .val (.int x18_91), .val (.int v104s0), .unset, .unset, .unset, .unset] [(.long v121s0)])) by
    by_cases c108_0 : v104s0 = (0 : Int32)
    · refine A (XS.ifYes X8.here hx rfl (pc0 := 108) (pc' := 119) rfl (hb hby at_108) rfl ((if0 _ _).trans (teq c108_0).1) (by decide) (by decide)) ?_
      show D (T8.setTop (mkF m 119 #[.val (.long p1), .second, .val (.long p2), .second, .val (.long p3), .second, .val (.int p4), .val (.long x7_7), .second, .val (.long (f1 p2 x7_7 p4)), .second, .val (.ref b2), .val (.int x12_37), .val (.int v50s0), .val (.long v67s0), .second, .val (.long x16_82), .second, .val (.int x18_91), .val (.int v104s0), .unset, .unset, .unset, .unset] []))
      refine A (XS.lload X8.here hx rfl (hb hby at_119) rfl) ?_
      show D (T8.setTop (mkF m 121 #[.val (.long p1), .second, .val (.long p2), .second, .val (.long p3), .second, .val (.int p4), .val (.long x7_7), .second, .val (.long (f1 p2 x7_7 p4)), .second, .val (.ref b2), .val (.int x12_37), .val (.int v50s0), .val (.long v67s0), .second, .val (.long x16_82), .second, .val (.int x18_91), .val (.int v104s0), .unset, .unset, .unset, .unset] [(.long v67s0)]))
      exact Km121_10 _ ((if_pos c108_0)).symm
    · refine A (XS.ifNo X8.here hx rfl (hb hby at_108) rfl ((if0 _ _).trans (feq c108_0).1)) ?_
      show D (T8.setTop (mkF m 111 #[.val (.long p1), .second, .val (.long p2), .second, .val (.long p3), .second, .val (.int p4), .val (.long x7_7), .second, .val (.long (f1 p2 x7_7 p4)), .second, .val (.ref b2), .val (.int x12_37), .val (.int v50s0), .val (.long v67s0), .second, .val (.long x16_82), .second, .val (.int x18_91), .val (.int v104s0), .unset, .unset, .unset, .unset] []))
      refine A (XS.lload X8.here hx rfl (hb hby at_111) rfl) ?_
      show D (T8.setTop (mkF m 113 #[.val (.long p1), .second, .val (.long p2), .second, .val (.long p3), .second, .val (.int p4), .val (.long x7_7), .second, .val (.long (f1 p2 x7_7 p4)), .second, .val (.ref b2), .val (.int x12_37), .val (.int v50s0), .val (.long v67s0), .second, .val (.long x16_82), .second, .val (.int x18_91), .val (.int v104s0), .unset, .unset, .unset, .unset] [(.long v67s0)]))
      refine A (XS.lload X8.here hx rfl (hb hby at_113) rfl) ?_
      show D (T8.setTop (mkF m 115 #[.val (.long p1), .second, .val (.long p2), .second, .val (.long p3), .second, .val (.int p4), .val (.long x7_7), .second, .val (.long (f1 p2 x7_7 p4)), .second, .val (.ref b2), .val (.int x12_37), .val (.int v50s0), .val (.long v67s0), .second, .val (.long x16_82), .second, .val (.int x18_91), .val (.int v104s0), .unset, .unset, .unset, .unset] [(.long x16_82), (.long v67s0)]))
      refine A (XS.lsub X8.here hx rfl (hb hby at_115) rfl) ?_
      show D (T8.setTop (mkF m 116 #[.val (.long p1), .second, .val (.long p2), .second, .val (.long p3), .second, .val (.int p4), .val (.long x7_7), .second, .val (.long (f1 p2 x7_7 p4)), .second, .val (.ref b2), .val (.int x12_37), .val (.int v50s0), .val (.long v67s0), .second, .val (.long x16_82), .second, .val (.int x18_91), .val (.int v104s0), .unset, .unset, .unset, .unset] [(.long (v67s0 - x16_82))]))
      refine A (XS.goto X8.here hx rfl (pc0 := 116) (pc' := 121) rfl (hb hby at_116) (by decide) (by decide)) ?_
      show D (T8.setTop (mkF m 121 #[.val (.long p1), .second, .val (.long p2), .second, .val (.long p3), .second, .val (.int p4), .val (.long x7_7), .second, .val (.long (f1 p2 x7_7 p4)), .second, .val (.ref b2), .val (.int x12_37), .val (.int v50s0), .val (.long v67s0), .second, .val (.long x16_82), .second, .val (.int x18_91), .val (.int v104s0), .unset, .unset, .unset, .unset] [(.long (v67s0 - x16_82))]))
      exact Km121_10 _ ((if_neg c108_0)).symm
  intro v121s0 hv121s0
  show D (T8.setTop (mkF m 121 #[.val (.long p1), .second, .val (.long p2), .second, .val (.long p3), .second, .val (.int p4), .val (.long x7_7), .second, .val (.long (f1 p2 x7_7 p4)), .second, .val (.ref b2), .val (.int x12_37), .val (.int v50s0), .val (.long v67s0), .second, .val (.long x16_82), .second, .val (.int x18_91), .val (.int v104s0), .unset, .unset, .unset, .unset] [(.long v121s0)]))
  refine A (XS.lstore X8.here hx rfl (hb hby at_121) rfl (l' := #[.val (.long p1), .second, .val (.long p2), .second, .val (.long p3), .second, .val (.int p4), .val (.long x7_7), .second, .val (.long (f1 p2 x7_7 p4)), .second, .val (.ref b2), .val (.int x12_37), .val (.int v50s0), .val (.long v67s0), .second, .val (.long x16_82), .second, .val (.int x18_91), .val (.int v104s0), .val (.long v121s0), .second, .unset, .unset]) rfl) ?_
  show D (T8.setTop (mkF m 123 #[.val (.long p1), .second, .val (.long p2), .second, .val (.long p3), .second, .val (.int p4), .val (.long x7_7), .second, .val (.long (f1 p2 x7_7 p4)), .second, .val (.ref b2), .val (.int x12_37), .val (.int v50s0), .val (.long v67s0), .second, .val (.long x16_82), .second, .val (.int x18_91), .val (.int v104s0), .val (.long v121s0), .second, .unset, .unset] []))
  refine A (XS.aload X8.here hx rfl (hb hby at_123) rfl rfl) ?_
  show D (T8.setTop (mkF m 125 #[.val (.long p1), .second, .val (.long p2), .second, .val (.long p3), .second, .val (.int p4), .val (.long x7_7), .second, .val (.long (f1 p2 x7_7 p4)), .second, .val (.ref b2), .val (.int x12_37), .val (.int v50s0), .val (.long v67s0), .second, .val (.long x16_82), .second, .val (.int x18_91), .val (.int v104s0), .val (.long v121s0), .second, .unset, .unset] [(.ref b2)]))
  refine A (XS.lload X8.here hx rfl (hb hby at_125) rfl) ?_
  show D (T8.setTop (mkF m 127 #[.val (.long p1), .second, .val (.long p2), .second, .val (.long p3), .second, .val (.int p4), .val (.long x7_7), .second, .val (.long (f1 p2 x7_7 p4)), .second, .val (.ref b2), .val (.int x12_37), .val (.int v50s0), .val (.long v67s0), .second, .val (.long x16_82), .second, .val (.int x18_91), .val (.int v104s0), .val (.long v121s0), .second, .unset, .unset] [(.long v121s0), (.ref b2)]))
  refine Adv.callV A X8 hx hZ hown (hw _ (List.mem_of_getElem? (i := 18) rfl)) (hw _ (List.mem_of_getElem? (i := 19) rfl)) (notFace_of_selects (args := #[]) (mvT hZ (hw _ (List.mem_of_getElem? (i := 21) rfl)))) (hw _ (List.mem_of_getElem? (i := 21) rfl)) (hw _ (List.mem_of_getElem? (i := 20) rfl)) (hw _ (List.mem_of_getElem? (i := 7) rfl)) (hw _ (List.mem_of_getElem? (i := 22) rfl)) rfl E_b2_8 (rm4 l Z a0 hw [] b2 v121s0 T8.heap n0 (own_lf (own_lf x7_7 (f1 p2 x7_7 p4)) x16_82) Z_8 g_b2 E_b2_8 F8_l) 0 (g := (mkF m 127 #[.val (.long p1), .second, .val (.long p2), .second, .val (.long p3), .second, .val (.int p4), .val (.long x7_7), .second, .val (.long (f1 p2 x7_7 p4)), .second, .val (.ref b2), .val (.int x12_37), .val (.int v50s0), .val (.long v67s0), .second, .val (.long x16_82), .second, .val (.int x18_91), .val (.int v104s0), .val (.long v121s0), .second, .unset, .unset] [(.long v121s0), (.ref b2)])) rfl (by rw [hml]; rfl) [(.long v121s0)] [] rfl (lenOf pd0_2 rfl) rfl (by show 2 * 0 + _ ≤ _; exact Nat.le_of_eq rfl) (hb hby at_127) (by decide) (by decide) (by decide) (by decide) (by decide) ?_
  rintro T11 L11 _ X11 ⟨rfl, N11_q, K11, -, F11_l⟩
  have N11 := Fr.app N8 N11_q
  have E_b2_11 := E_b2_8.keep K11
  have Z_11 : n0 ≤ T11.heap.size := Nat.le_trans Z_8 K11.1
  show D (T11.setTop (mkF m 130 #[.val (.long p1), .second, .val (.long p2), .second, .val (.long p3), .second, .val (.int p4), .val (.long x7_7), .second, .val (.long (f1 p2 x7_7 p4)), .second, .val (.ref b2), .val (.int x12_37), .val (.int v50s0), .val (.long v67s0), .second, .val (.long x16_82), .second, .val (.int x18_91), .val (.int v104s0), .val (.long v121s0), .second, .unset, .unset] [(.int (own_tk (own_lf (own_lf x7_7 (f1 p2 x7_7 p4)) x16_82) v121s0))]))
  refine A (XS.istore X11.here hx rfl (hb hby at_130) rfl (l' := #[.val (.long p1), .second, .val (.long p2), .second, .val (.long p3), .second, .val (.int p4), .val (.long x7_7), .second, .val (.long (f1 p2 x7_7 p4)), .second, .val (.ref b2), .val (.int x12_37), .val (.int v50s0), .val (.long v67s0), .second, .val (.long x16_82), .second, .val (.int x18_91), .val (.int v104s0), .val (.long v121s0), .second, .val (.int (own_tk (own_lf (own_lf x7_7 (f1 p2 x7_7 p4)) x16_82) v121s0)), .unset]) rfl) ?_
  show D (T11.setTop (mkF m 132 #[.val (.long p1), .second, .val (.long p2), .second, .val (.long p3), .second, .val (.int p4), .val (.long x7_7), .second, .val (.long (f1 p2 x7_7 p4)), .second, .val (.ref b2), .val (.int x12_37), .val (.int v50s0), .val (.long v67s0), .second, .val (.long x16_82), .second, .val (.int x18_91), .val (.int v104s0), .val (.long v121s0), .second, .val (.int (own_tk (own_lf (own_lf x7_7 (f1 p2 x7_7 p4)) x16_82) v121s0)), .unset] []))
  suffices Kx22_132 : ∀ x22_132 : Int32, x22_132 = (own_tk (own_lf (own_lf x7_7 (f1 p2 x7_7 p4)) x16_82) v121s0) → D (T11.setTop (mkF m 132 #[.val (.long p1), .second, .val (.long p2), .second, .val (.long p3), .second, .val (.int p4), .val (.long x7_7), .second, .val (.long (f1 p2 x7_7 p4)), .second, .val (.ref b2), .val (.int x12_37), .val (.int v50s0), .val (.long v67s0), .second, .val (.long x16_82), .second, .val (.int x18_91), .val (.int v104s0), .val (.long v121s0), .second, .val (.int x22_132), .unset] [])) from Kx22_132 _ rfl
  intro x22_132 hx22_132
  refine A (XS.aload X11.here hx rfl (hb hby at_132) rfl rfl) ?_
  show D (T11.setTop (mkF m 134 #[.val (.long p1), .second, .val (.long p2), .second, .val (.long p3), .second, .val (.int p4), .val (.long x7_7), .second, .val (.long (f1 p2 x7_7 p4)), .second, .val (.ref b2), .val (.int x12_37), .val (.int v50s0), .val (.long v67s0), .second, .val (.long x16_82), .second, .val (.int x18_91), .val (.int v104s0), .val (.long v121s0), .second, .val (.int x22_132), .unset] [(.ref b2)]))
  refine A (XS.lconst X11.here hx rfl (hb hby at_134)) ?_
  show D (T11.setTop (mkF m 135 #[.val (.long p1), .second, .val (.long p2), .second, .val (.long p3), .second, .val (.int p4), .val (.long x7_7), .second, .val (.long (f1 p2 x7_7 p4)), .second, .val (.ref b2), .val (.int x12_37), .val (.int v50s0), .val (.long v67s0), .second, .val (.long x16_82), .second, .val (.int x18_91), .val (.int v104s0), .val (.long v121s0), .second, .val (.int x22_132), .unset] [(.long (1 : Int64)), (.ref b2)]))
  refine Adv.callV A X11 hx hZ hown (hw _ (List.mem_of_getElem? (i := 18) rfl)) (hw _ (List.mem_of_getElem? (i := 19) rfl)) (notFace_of_selects (args := #[]) (mvT hZ (hw _ (List.mem_of_getElem? (i := 21) rfl)))) (hw _ (List.mem_of_getElem? (i := 21) rfl)) (hw _ (List.mem_of_getElem? (i := 20) rfl)) (hw _ (List.mem_of_getElem? (i := 7) rfl)) (hw _ (List.mem_of_getElem? (i := 22) rfl)) rfl E_b2_11 (rm4 l Z a0 hw [] b2 (1 : Int64) T11.heap n0 (own_lf (own_lf (own_lf x7_7 (f1 p2 x7_7 p4)) x16_82) v121s0) Z_11 g_b2 E_b2_11 F11_l) 0 (g := (mkF m 135 #[.val (.long p1), .second, .val (.long p2), .second, .val (.long p3), .second, .val (.int p4), .val (.long x7_7), .second, .val (.long (f1 p2 x7_7 p4)), .second, .val (.ref b2), .val (.int x12_37), .val (.int v50s0), .val (.long v67s0), .second, .val (.long x16_82), .second, .val (.int x18_91), .val (.int v104s0), .val (.long v121s0), .second, .val (.int x22_132), .unset] [(.long (1 : Int64)), (.ref b2)])) rfl (by rw [hml]; rfl) [(.long (1 : Int64))] [] rfl (lenOf pd0_2 rfl) rfl (by show 2 * 0 + _ ≤ _; exact Nat.le_of_eq rfl) (hb hby at_135) (by decide) (by decide) (by decide) (by decide) (by decide) ?_
  rintro T12 L12 _ X12 ⟨rfl, N12_q, K12, -, F12_l⟩
  have N12 := Fr.app N11 N12_q
  have E_b2_12 := E_b2_11.keep K12
  have Z_12 : n0 ≤ T12.heap.size := Nat.le_trans Z_11 K12.1
  show D (T12.setTop (mkF m 138 #[.val (.long p1), .second, .val (.long p2), .second, .val (.long p3), .second, .val (.int p4), .val (.long x7_7), .second, .val (.long (f1 p2 x7_7 p4)), .second, .val (.ref b2), .val (.int x12_37), .val (.int v50s0), .val (.long v67s0), .second, .val (.long x16_82), .second, .val (.int x18_91), .val (.int v104s0), .val (.long v121s0), .second, .val (.int x22_132), .unset] [(.int (own_tk (own_lf (own_lf (own_lf x7_7 (f1 p2 x7_7 p4)) x16_82) v121s0) (1 : Int64)))]))
  refine A (XS.istore X12.here hx rfl (hb hby at_138) rfl (l' := #[.val (.long p1), .second, .val (.long p2), .second, .val (.long p3), .second, .val (.int p4), .val (.long x7_7), .second, .val (.long (f1 p2 x7_7 p4)), .second, .val (.ref b2), .val (.int x12_37), .val (.int v50s0), .val (.long v67s0), .second, .val (.long x16_82), .second, .val (.int x18_91), .val (.int v104s0), .val (.long v121s0), .second, .val (.int x22_132), .val (.int (own_tk (own_lf (own_lf (own_lf x7_7 (f1 p2 x7_7 p4)) x16_82) v121s0) (1 : Int64)))]) rfl) ?_
  show D (T12.setTop (mkF m 140 #[.val (.long p1), .second, .val (.long p2), .second, .val (.long p3), .second, .val (.int p4), .val (.long x7_7), .second, .val (.long (f1 p2 x7_7 p4)), .second, .val (.ref b2), .val (.int x12_37), .val (.int v50s0), .val (.long v67s0), .second, .val (.long x16_82), .second, .val (.int x18_91), .val (.int v104s0), .val (.long v121s0), .second, .val (.int x22_132), .val (.int (own_tk (own_lf (own_lf (own_lf x7_7 (f1 p2 x7_7 p4)) x16_82) v121s0) (1 : Int64)))] []))
  suffices Kx23_140 : ∀ x23_140 : Int32, x23_140 = (own_tk (own_lf (own_lf (own_lf x7_7 (f1 p2 x7_7 p4)) x16_82) v121s0) (1 : Int64)) → D (T12.setTop (mkF m 140 #[.val (.long p1), .second, .val (.long p2), .second, .val (.long p3), .second, .val (.int p4), .val (.long x7_7), .second, .val (.long (f1 p2 x7_7 p4)), .second, .val (.ref b2), .val (.int x12_37), .val (.int v50s0), .val (.long v67s0), .second, .val (.long x16_82), .second, .val (.int x18_91), .val (.int v104s0), .val (.long v121s0), .second, .val (.int x22_132), .val (.int x23_140)] [])) from Kx23_140 _ rfl
  intro x23_140 hx23_140
  refine A (XS.iload X12.here hx rfl (hb hby at_140) rfl) ?_
  show D (T12.setTop (mkF m 142 #[.val (.long p1), .second, .val (.long p2), .second, .val (.long p3), .second, .val (.int p4), .val (.long x7_7), .second, .val (.long (f1 p2 x7_7 p4)), .second, .val (.ref b2), .val (.int x12_37), .val (.int v50s0), .val (.long v67s0), .second, .val (.long x16_82), .second, .val (.int x18_91), .val (.int v104s0), .val (.long v121s0), .second, .val (.int x22_132), .val (.int x23_140)] [(.int x12_37)]))
  refine A (XS.iload X12.here hx rfl (hb hby at_142) rfl) ?_
  show D (T12.setTop (mkF m 144 #[.val (.long p1), .second, .val (.long p2), .second, .val (.long p3), .second, .val (.int p4), .val (.long x7_7), .second, .val (.long (f1 p2 x7_7 p4)), .second, .val (.ref b2), .val (.int x12_37), .val (.int v50s0), .val (.long v67s0), .second, .val (.long x16_82), .second, .val (.int x18_91), .val (.int v104s0), .val (.long v121s0), .second, .val (.int x22_132), .val (.int x23_140)] [(.int v50s0), (.int x12_37)]))
  suffices Km169_13 : ∀ (v169s0 : Int32), v169s0 = (if x12_37 = v50s0 then (if x18_91 = v104s0 then (if x22_132 = (0 : Int32) then (0 : Int32) else (if x23_140 = (0 : Int32) then (1 : Int32) else (0 : Int32))) else (0 : Int32)) else (0 : Int32)) → D (T12.setTop (mkF m 169 #[.val (.long p1), .second, .val (.long p2), .second, .val (.long p3), .second, .val (.int p4), .val (.long x7_7), .second, .val (.long (f1 p2 x7_7 p4)), .second, .val (.ref b2), .val (.int x12_37), .val (.int v50s0), .val (.long v67s0), .second, .val (.long x16_82), .second, .val (.int x18_91), .val (.int v104s0), .val (.long v121s0), .second, .val (.int x22_132), .val (.int x23_140)] [(.int v169s0)])) by
    by_cases c144_0 : x12_37 = v50s0
    · refine A (XS.icmpNo X12.here hx rfl (hb hby at_144) rfl (teq c144_0).2) ?_
      show D (T12.setTop (mkF m 147 #[.val (.long p1), .second, .val (.long p2), .second, .val (.long p3), .second, .val (.int p4), .val (.long x7_7), .second, .val (.long (f1 p2 x7_7 p4)), .second, .val (.ref b2), .val (.int x12_37), .val (.int v50s0), .val (.long v67s0), .second, .val (.long x16_82), .second, .val (.int x18_91), .val (.int v104s0), .val (.long v121s0), .second, .val (.int x22_132), .val (.int x23_140)] []))
      refine A (XS.iload X12.here hx rfl (hb hby at_147) rfl) ?_
      show D (T12.setTop (mkF m 149 #[.val (.long p1), .second, .val (.long p2), .second, .val (.long p3), .second, .val (.int p4), .val (.long x7_7), .second, .val (.long (f1 p2 x7_7 p4)), .second, .val (.ref b2), .val (.int x12_37), .val (.int v50s0), .val (.long v67s0), .second, .val (.long x16_82), .second, .val (.int x18_91), .val (.int v104s0), .val (.long v121s0), .second, .val (.int x22_132), .val (.int x23_140)] [(.int x18_91)]))
      refine A (XS.iload X12.here hx rfl (hb hby at_149) rfl) ?_
      show D (T12.setTop (mkF m 151 #[.val (.long p1), .second, .val (.long p2), .second, .val (.long p3), .second, .val (.int p4), .val (.long x7_7), .second, .val (.long (f1 p2 x7_7 p4)), .second, .val (.ref b2), .val (.int x12_37), .val (.int v50s0), .val (.long v67s0), .second, .val (.long x16_82), .second, .val (.int x18_91), .val (.int v104s0), .val (.long v121s0), .second, .val (.int x22_132), .val (.int x23_140)] [(.int v104s0), (.int x18_91)]))
      by_cases c151_1 : x18_91 = v104s0
      · refine A (XS.icmpNo X12.here hx rfl (hb hby at_151) rfl (teq c151_1).2) ?_
        show D (T12.setTop (mkF m 154 #[.val (.long p1), .second, .val (.long p2), .second, .val (.long p3), .second, .val (.int p4), .val (.long x7_7), .second, .val (.long (f1 p2 x7_7 p4)), .second, .val (.ref b2), .val (.int x12_37), .val (.int v50s0), .val (.long v67s0), .second, .val (.long x16_82), .second, .val (.int x18_91), .val (.int v104s0), .val (.long v121s0), .second, .val (.int x22_132), .val (.int x23_140)] []))
        refine A (XS.iload X12.here hx rfl (hb hby at_154) rfl) ?_
        show D (T12.setTop (mkF m 156 #[.val (.long p1), .second, .val (.long p2), .second, .val (.long p3), .second, .val (.int p4), .val (.long x7_7), .second, .val (.long (f1 p2 x7_7 p4)), .second, .val (.ref b2), .val (.int x12_37), .val (.int v50s0), .val (.long v67s0), .second, .val (.long x16_82), .second, .val (.int x18_91), .val (.int v104s0), .val (.long v121s0), .second, .val (.int x22_132), .val (.int x23_140)] [(.int x22_132)]))
        by_cases c156_2 : x22_132 = (0 : Int32)
        · refine A (XS.ifYes X12.here hx rfl (pc0 := 156) (pc' := 168) rfl (hb hby at_156) rfl ((if0 _ _).trans (teq c156_2).1) (by decide) (by decide)) ?_
          show D (T12.setTop (mkF m 168 #[.val (.long p1), .second, .val (.long p2), .second, .val (.long p3), .second, .val (.int p4), .val (.long x7_7), .second, .val (.long (f1 p2 x7_7 p4)), .second, .val (.ref b2), .val (.int x12_37), .val (.int v50s0), .val (.long v67s0), .second, .val (.long x16_82), .second, .val (.int x18_91), .val (.int v104s0), .val (.long v121s0), .second, .val (.int x22_132), .val (.int x23_140)] []))
          refine A (XS.iconst X12.here hx rfl (hb hby at_168)) ?_
          show D (T12.setTop (mkF m 169 #[.val (.long p1), .second, .val (.long p2), .second, .val (.long p3), .second, .val (.int p4), .val (.long x7_7), .second, .val (.long (f1 p2 x7_7 p4)), .second, .val (.ref b2), .val (.int x12_37), .val (.int v50s0), .val (.long v67s0), .second, .val (.long x16_82), .second, .val (.int x18_91), .val (.int v104s0), .val (.long v121s0), .second, .val (.int x22_132), .val (.int x23_140)] [(.int (0 : Int32))]))
          exact Km169_13 _ ((((if_pos c144_0)).trans (if_pos c151_1)).trans (if_pos c156_2)).symm
        · refine A (XS.ifNo X12.here hx rfl (hb hby at_156) rfl ((if0 _ _).trans (feq c156_2).1)) ?_
          show D (T12.setTop (mkF m 159 #[.val (.long p1), .second, .val (.long p2), .second, .val (.long p3), .second, .val (.int p4), .val (.long x7_7), .second, .val (.long (f1 p2 x7_7 p4)), .second, .val (.ref b2), .val (.int x12_37), .val (.int v50s0), .val (.long v67s0), .second, .val (.long x16_82), .second, .val (.int x18_91), .val (.int v104s0), .val (.long v121s0), .second, .val (.int x22_132), .val (.int x23_140)] []))
          refine A (XS.iload X12.here hx rfl (hb hby at_159) rfl) ?_
          show D (T12.setTop (mkF m 161 #[.val (.long p1), .second, .val (.long p2), .second, .val (.long p3), .second, .val (.int p4), .val (.long x7_7), .second, .val (.long (f1 p2 x7_7 p4)), .second, .val (.ref b2), .val (.int x12_37), .val (.int v50s0), .val (.long v67s0), .second, .val (.long x16_82), .second, .val (.int x18_91), .val (.int v104s0), .val (.long v121s0), .second, .val (.int x22_132), .val (.int x23_140)] [(.int x23_140)]))
          by_cases c161_3 : x23_140 = (0 : Int32)
          · refine A (XS.ifNo X12.here hx rfl (hb hby at_161) rfl ((if0 _ _).trans (teq c161_3).2)) ?_
            show D (T12.setTop (mkF m 164 #[.val (.long p1), .second, .val (.long p2), .second, .val (.long p3), .second, .val (.int p4), .val (.long x7_7), .second, .val (.long (f1 p2 x7_7 p4)), .second, .val (.ref b2), .val (.int x12_37), .val (.int v50s0), .val (.long v67s0), .second, .val (.long x16_82), .second, .val (.int x18_91), .val (.int v104s0), .val (.long v121s0), .second, .val (.int x22_132), .val (.int x23_140)] []))
            refine A (XS.iconst X12.here hx rfl (hb hby at_164)) ?_
            show D (T12.setTop (mkF m 165 #[.val (.long p1), .second, .val (.long p2), .second, .val (.long p3), .second, .val (.int p4), .val (.long x7_7), .second, .val (.long (f1 p2 x7_7 p4)), .second, .val (.ref b2), .val (.int x12_37), .val (.int v50s0), .val (.long v67s0), .second, .val (.long x16_82), .second, .val (.int x18_91), .val (.int v104s0), .val (.long v121s0), .second, .val (.int x22_132), .val (.int x23_140)] [(.int (1 : Int32))]))
            refine A (XS.goto X12.here hx rfl (pc0 := 165) (pc' := 169) rfl (hb hby at_165) (by decide) (by decide)) ?_
            show D (T12.setTop (mkF m 169 #[.val (.long p1), .second, .val (.long p2), .second, .val (.long p3), .second, .val (.int p4), .val (.long x7_7), .second, .val (.long (f1 p2 x7_7 p4)), .second, .val (.ref b2), .val (.int x12_37), .val (.int v50s0), .val (.long v67s0), .second, .val (.long x16_82), .second, .val (.int x18_91), .val (.int v104s0), .val (.long v121s0), .second, .val (.int x22_132), .val (.int x23_140)] [(.int (1 : Int32))]))
            exact Km169_13 _ (((((if_pos c144_0)).trans (if_pos c151_1)).trans (if_neg c156_2)).trans (if_pos c161_3)).symm
          · refine A (XS.ifYes X12.here hx rfl (pc0 := 161) (pc' := 168) rfl (hb hby at_161) rfl ((if0 _ _).trans (feq c161_3).2) (by decide) (by decide)) ?_
            show D (T12.setTop (mkF m 168 #[.val (.long p1), .second, .val (.long p2), .second, .val (.long p3), .second, .val (.int p4), .val (.long x7_7), .second, .val (.long (f1 p2 x7_7 p4)), .second, .val (.ref b2), .val (.int x12_37), .val (.int v50s0), .val (.long v67s0), .second, .val (.long x16_82), .second, .val (.int x18_91), .val (.int v104s0), .val (.long v121s0), .second, .val (.int x22_132), .val (.int x23_140)] []))
            refine A (XS.iconst X12.here hx rfl (hb hby at_168)) ?_
            show D (T12.setTop (mkF m 169 #[.val (.long p1), .second, .val (.long p2), .second, .val (.long p3), .second, .val (.int p4), .val (.long x7_7), .second, .val (.long (f1 p2 x7_7 p4)), .second, .val (.ref b2), .val (.int x12_37), .val (.int v50s0), .val (.long v67s0), .second, .val (.long x16_82), .second, .val (.int x18_91), .val (.int v104s0), .val (.long v121s0), .second, .val (.int x22_132), .val (.int x23_140)] [(.int (0 : Int32))]))
            exact Km169_13 _ (((((if_pos c144_0)).trans (if_pos c151_1)).trans (if_neg c156_2)).trans (if_neg c161_3)).symm
      · refine A (XS.icmpYes X12.here hx rfl (pc0 := 151) (pc' := 168) rfl (hb hby at_151) rfl (feq c151_1).2 (by decide) (by decide)) ?_
        show D (T12.setTop (mkF m 168 #[.val (.long p1), .second, .val (.long p2), .second, .val (.long p3), .second, .val (.int p4), .val (.long x7_7), .second, .val (.long (f1 p2 x7_7 p4)), .second, .val (.ref b2), .val (.int x12_37), .val (.int v50s0), .val (.long v67s0), .second, .val (.long x16_82), .second, .val (.int x18_91), .val (.int v104s0), .val (.long v121s0), .second, .val (.int x22_132), .val (.int x23_140)] []))
        refine A (XS.iconst X12.here hx rfl (hb hby at_168)) ?_
        show D (T12.setTop (mkF m 169 #[.val (.long p1), .second, .val (.long p2), .second, .val (.long p3), .second, .val (.int p4), .val (.long x7_7), .second, .val (.long (f1 p2 x7_7 p4)), .second, .val (.ref b2), .val (.int x12_37), .val (.int v50s0), .val (.long v67s0), .second, .val (.long x16_82), .second, .val (.int x18_91), .val (.int v104s0), .val (.long v121s0), .second, .val (.int x22_132), .val (.int x23_140)] [(.int (0 : Int32))]))
        exact Km169_13 _ (((if_pos c144_0)).trans (if_neg c151_1)).symm
    · refine A (XS.icmpYes X12.here hx rfl (pc0 := 144) (pc' := 168) rfl (hb hby at_144) rfl (feq c144_0).2 (by decide) (by decide)) ?_
      show D (T12.setTop (mkF m 168 #[.val (.long p1), .second, .val (.long p2), .second, .val (.long p3), .second, .val (.int p4), .val (.long x7_7), .second, .val (.long (f1 p2 x7_7 p4)), .second, .val (.ref b2), .val (.int x12_37), .val (.int v50s0), .val (.long v67s0), .second, .val (.long x16_82), .second, .val (.int x18_91), .val (.int v104s0), .val (.long v121s0), .second, .val (.int x22_132), .val (.int x23_140)] []))
      refine A (XS.iconst X12.here hx rfl (hb hby at_168)) ?_
      show D (T12.setTop (mkF m 169 #[.val (.long p1), .second, .val (.long p2), .second, .val (.long p3), .second, .val (.int p4), .val (.long x7_7), .second, .val (.long (f1 p2 x7_7 p4)), .second, .val (.ref b2), .val (.int x12_37), .val (.int v50s0), .val (.long v67s0), .second, .val (.long x16_82), .second, .val (.int x18_91), .val (.int v104s0), .val (.long v121s0), .second, .val (.int x22_132), .val (.int x23_140)] [(.int (0 : Int32))]))
      exact Km169_13 _ ((if_neg c144_0)).symm
  intro v169s0 hv169s0
  show D (T12.setTop (mkF m 169 #[.val (.long p1), .second, .val (.long p2), .second, .val (.long p3), .second, .val (.int p4), .val (.long x7_7), .second, .val (.long (f1 p2 x7_7 p4)), .second, .val (.ref b2), .val (.int x12_37), .val (.int v50s0), .val (.long v67s0), .second, .val (.long x16_82), .second, .val (.int x18_91), .val (.int v104s0), .val (.long v121s0), .second, .val (.int x22_132), .val (.int x23_140)] [(.int v169s0)]))
  obtain rfl : v169s0 = (1 : Int32) := by
    have h50 : v50s0 = own_tk x7_7 (f1 p2 x7_7 p4) := by rw [hv50s0]; exact own_e _ _
    have h67 : v67s0 = own_lf x7_7 (f1 p2 x7_7 p4) := by rw [hv67s0, h50]; exact own_l _ _
    have h104 : v104s0 = own_tk v67s0 x16_82 := by rw [hv104s0]; exact own_e _ _
    have h121 : v121s0 = own_lf v67s0 x16_82 := by rw [hv121s0, h104]; exact own_l _ _
    have h22 : x22_132 = 1 := by rw [hx22_132, ← h67, ← h121]; exact own_tt _
    have h23 : x23_140 = 0 := by rw [hx23_140, ← h67, ← h121, own_ll]; decide
    have h12 : x12_37 = v50s0 := by rw [hx12_37, h50]
    have h18 : x18_91 = v104s0 := by rw [hx18_91, ← h67, h104]
    rw [hv169s0, if_pos h12, if_pos h18, h22, h23]
    decide
  show D (T12.setTop (mkF m 169 #[.val (.long p1), .second, .val (.long p2), .second, .val (.long p3), .second, .val (.int p4), .val (.long x7_7), .second, .val (.long (f1 p2 x7_7 p4)), .second, .val (.ref b2), .val (.int x12_37), .val (.int v50s0), .val (.long v67s0), .second, .val (.long x16_82), .second, .val (.int x18_91), .val (.int v104s0), .val (.long v121s0), .second, .val (.int x22_132), .val (.int x23_140)] [(.int (1 : Int32))]))
  exact F _ (Jvm.JW.ret X12 hlk (v := some (.int (1 : Int32))) (fun h => by rw [hrt] at h; cases h) (fun fs hr => retOut X12 hx hrt rfl (Or.inl ⟨rfl, Or.inr (Or.inl rfl), _, rfl⟩) (hb hby at_169) hr) rfl ⟨rfl, N12⟩ (by decide) (by decide))
set_option maxRecDepth 65536 in
set_option maxHeartbeats 40000000 in
theorem comes_1 {Post : Tables → Env → Array Value → State → Outcome → State → Prop} (hpost : ∀ tb e args s v u, (limb_1_1.after args s (.returned v) u = true ∧ limb_1_2.after args s (.returned v) u = true ∧ True) → FrameEnd s (.returned v) u (Jvm.fieldLocs frame_1_writes args s ++ Jvm.arrayLocs frame_1_arrays args s ++ Jvm.staticLocs frame_1_statics s) 16 128 → Post tb e args s (.returned v) u) :
    ArmFor flags0 classFile x code maxLocals ret World_1 tables_1 room_1 Calls_1 rest_1 Pre_1 Post := by
  intro l hfl _ _ p e ha hc hk s m args below hf hA hF happ hP
  obtain ⟨hcalls, hrest, hpre⟩ := hP
  obtain ⟨-, -, -, hnamed, -, -, -, hat⟩ := (Spec.applies_iff hf).mp happ
  obtain ⟨hg, hn⟩ := and_e (Cond.before_iff.mp (show (Jvm.Cond.and given_1 narrow_1).before args s = true from hpre))
  obtain ⟨g0, g1⟩ := and_e hg
  obtain ⟨t1, g2⟩ := and_e g1
  obtain ⟨t2, g3⟩ := and_e g2
  obtain ⟨t3, g4⟩ := and_e g3
  obtain ⟨w0, w1, w2, w3, rfl⟩ : ∃ w0 w1 w2 w3 : Value, args = #[w0, w1, w2, w3] := by
    have hs : args.size = 4 := by simpa [Cond.value, given_1] using g0
    obtain ⟨L⟩ := args
    match L, hs with
    | [w0, w1, w2, w3], _ => exact ⟨w0, w1, w2, w3, rfl⟩
  have hw := fun d (hd : d ∈ tables_1) => atoms_spec (ws := Jvm.Cond.code x code maxLocals ret :: tables_1) hat d (List.mem_cons_of_mem _ hd)
  obtain ⟨i0, q0⟩ := isL_v t1
  obtain rfl : w0 = (.long i0) := Option.some.inj q0
  obtain ⟨i1, q1⟩ := isL_v t2
  obtain rfl : w1 = (.long i1) := Option.some.inj q1
  obtain ⟨i2, q2⟩ := isL_v t3
  obtain rfl : w2 = (.long i2) := Option.some.inj q2
  obtain ⟨i3, q3⟩ := is_v g4
  obtain rfl : w3 = (.int i3) := Option.some.inj q3
  obtain ⟨n, o, h1, h2, h3, _, L, rfl, ⟨rfl, N⟩, hq⟩ := rm0 l s _ hw tables_1 i0 i1 i2 i3 s.heap s.heap.size (Nat.le_refl _) p e ha hc hk s m _ below hf ((Spec.applies_iff_loose hf).mp happ).1 ⟨rfl, State.Warmed39.refl s, rfl⟩ trivial
  refine ⟨n, _, h1, h2, h3, hpost _ _ _ _ _ _ ⟨Cond.after_iff.mpr rfl, Cond.after_iff.mpr (eq_i res_at (Term.int_eval (1)) rfl), trivial⟩ ⟨hq.1, hq.2.1, (hq.2.2.sift fun y hy => Or.inr (N y hy)).mono (by decide) (by decide)⟩⟩
theorem main_1_1 : Claimed_1_1 := comes_1 fun _ _ _ _ _ _ h hF => ⟨h.1, hF⟩
theorem main_1_2 : Claimed_1_2 := comes_1 fun _ _ _ _ _ _ h hF => ⟨h.2.1, hF⟩
end Jvm.Pilot.@@N@@
namespace Jvm.Pilot.@@N@@
open Jvm Jvm.ClassFile Sem Op Lib Jvm.Free Jvm.Stand Jvm.Pilot.@@N@@.Jvm.D
/-! MADE BY PROGRAM (witnessworld.py) out of the Statement's table words and the real class files: 9 classes; the members and pool entries that the words name. The judged class is class 1, her method 1. -/
namespace start1
open Jvm.ClassFile
def u (s : String) : CpInfo := .utf8 (stringToUtf16 s)
/-- a pool by its gaps: so many unusable entries, then the entry; so many at the end -/
def gap : Nat → List CpInfo → List CpInfo
  | 0, r => r
  | n + 1, r => .unusable :: gap n r
def poolList (es : List (Nat × CpInfo)) (last : Nat) : List CpInfo := es.foldr (fun e r => gap e.1 (e.2 :: r)) (gap last [])
def pool (es : List (Nat × CpInfo)) (last : Nat) : Array CpInfo := ⟨poolList es last⟩
def fileOf (pool : Array CpInfo) (this : Nat) (attrs : Array Attribute := #[]) (ms : Array MethodInfo := #[]) (fl : Nat := 33) (sup : Nat := 0) (ifs : Array Nat := #[]) (fds : Array FieldInfo := #[]) : ClassFile where
  minorVersion := 0
  majorVersion := 65
  constantPool := pool
  accessFlags := fl
  thisClass := this
  superClass := sup
  interfaces := ifs
  fields := fds
  methods := ms
  attributes := attrs
def plain (name : String) (sup : Option ClassId) : Class where
  name := name
  kind := .ordinary
  loader := none
  accessFlags := 33
  super := sup
  interfaces := #[]
  cf := none
  fields := #[]
  methods := #[]
  instanceTypes := #[]
  staticTypes := #[]
  resolved := #[]
  callSites := []
  init := .initialized
  statics := none
  mirror := none

def pool0 : Array CpInfo := pool [(5, u "<init>"), (0, u "()V"), (1, .class_ 10), (1, u "java/lang/Object")] 113

def k0c0 : Code := { maxStack := 0, maxLocals := 1, code := object_method_1_code, exceptionTable := #[], attributes := #[] }
def k0m0 : Method := { name := "<init>", desc := "()V", sig := { parameters := [], returnType := none }, accessFlags := 1, code := some k0c0 }
/-- java/lang/Object -/
def k0 : Class := { plain "java/lang/Object" none with
  accessFlags := 33
  interfaces := #[]
  cf := some (fileOf pool0 8 #[] #[{ accessFlags := 1, nameIndex := 5, descriptorIndex := 6, attributes := #[] }] 33 0 #[] #[])
  fields := #[]
  methods := #[k0m0]
  instanceTypes := #[]
  staticTypes := #[]
  resolved := Array.replicate 124 none
  statics := none }

def pool1 : Array CpInfo := pool [(2, .class_ 4), (1, u "java/lang/Object"), (0, u "<init>"), (0, u "()V"), (2, .long 9223372036854775807), (1, .methodref 12 13), (0, .class_ 14), (0, .nameAndType 15 16), (0, u "com/example/stringified_tags/stringifiedtags/TreeBudgetTakePinLaw"), (0, u "pick"), (0, u "(JJI)J"), (0, .class_ 18), (0, u "com/example/stringified_tags/stringifiedtags/TreeBudget"), (0, .methodref 17 20), (0, .nameAndType 5 21), (0, u "(J)V"), (0, .methodref 17 23), (0, .nameAndType 24 25), (0, u "take"), (0, u "(J)Z"), (2, u "law"), (0, u "(JJJI)Z")] 3

def k1m0 : Method := { name := "<init>", desc := "()V", sig := { parameters := [], returnType := none }, accessFlags := 1, code := none }
def k1c1 : Code := { maxStack := 6, maxLocals := 24, code := code, exceptionTable := #[], attributes := #[] }
def k1m1 : Method := { name := "law", desc := "(JJJI)Z", sig := { parameters := [.long, .long, .long, .int], returnType := some .boolean }, accessFlags := 9, code := some k1c1 }
def k1c2 : Code := { maxStack := 4, maxLocals := 7, code := method_3_code, exceptionTable := #[], attributes := #[] }
def k1m2 : Method := { name := "pick", desc := "(JJI)J", sig := { parameters := [.long, .long, .int], returnType := some .long }, accessFlags := 10, code := some k1c2 }
/-- com/example/stringified_tags/stringifiedtags/TreeBudgetTakePinLaw -/
def k1 : Class := { plain "com/example/stringified_tags/stringifiedtags/TreeBudgetTakePinLaw" (some 0) with
  accessFlags := 49
  interfaces := #[]
  cf := some (fileOf pool1 12 #[] #[{ accessFlags := 1, nameIndex := 5, descriptorIndex := 6, attributes := #[] }, { accessFlags := 9, nameIndex := 28, descriptorIndex := 29, attributes := #[] }, { accessFlags := 10, nameIndex := 15, descriptorIndex := 16, attributes := #[] }] 49 2 #[] #[])
  fields := #[]
  methods := #[k1m0, k1m1, k1m2]
  instanceTypes := #[]
  staticTypes := #[]
  resolved := Array.replicate 33 none
  statics := none }

def pool2 : Array CpInfo := pool [(1, .class_ 2), (0, u "com/example/stringified_tags/stringifiedtags/TreeBudget"), (2, .methodref 6 7), (0, .class_ 8), (0, .nameAndType 9 10), (0, u "java/lang/Object"), (0, u "<init>"), (0, u "()V"), (0, .fieldref 1 12), (0, .nameAndType 13 14), (0, u "max"), (0, u "J"), (0, .fieldref 1 16), (0, .nameAndType 17 14), (0, u "left"), (5, .class_ 25), (1, u "com/example/stringified_tags/stringifiedtags/TreeBudget$1"), (23, u "LIST"), (2, u "COMPOUND"), (2, u "STRING"), (10, u "UNMODIFIABLE_LIST"), (2, u "INTEGER"), (24, u "MAP_ENTRY"), (2, u "FIRST_TABLE"), (4, u "OWN_BYTE"), (2, u "GROWN_SLOT"), (2, u "COMMENT"), (2, u "LAYOUT_ENTRY"), (0, u "REFERENCE"), (0, u "I"), (2, u "HEADER"), (1, u "ARRAY_HEADER"), (1, u "ALIGNMENT"), (1, u "TABLE_SHARE"), (0, u "SLOT"), (0, u "(J)V"), (4, u "take"), (0, u "(J)Z")] 28

def k2c0 : Code := { maxStack := 3, maxLocals := 3, code := prog_80_method_1_code, exceptionTable := #[], attributes := #[] }
def k2m0 : Method := { name := "<init>", desc := "(J)V", sig := { parameters := [.long], returnType := none }, accessFlags := 0, code := some k2c0 }
def k2c1 : Code := { maxStack := 5, maxLocals := 4, code := prog_80_method_3_code, exceptionTable := #[], attributes := #[] }
def k2m1 : Method := { name := "take", desc := "(J)Z", sig := { parameters := [.long], returnType := some .boolean }, accessFlags := 0, code := some k2c1 }
/-- com/example/stringified_tags/stringifiedtags/TreeBudget -/
def k2 : Class := { plain "com/example/stringified_tags/stringifiedtags/TreeBudget" (some 0) with
  accessFlags := 32
  interfaces := #[]
  cf := some (fileOf pool2 1 #[.nestMembers #[23]] #[{ accessFlags := 0, nameIndex := 9, descriptorIndex := 124, attributes := #[] }, { accessFlags := 0, nameIndex := 129, descriptorIndex := 130, attributes := #[] }] 32 6 #[] #[{ accessFlags := 26, nameIndex := 112, descriptorIndex := 113, attributes := #[] }, { accessFlags := 26, nameIndex := 116, descriptorIndex := 113, attributes := #[] }, { accessFlags := 26, nameIndex := 118, descriptorIndex := 113, attributes := #[] }, { accessFlags := 26, nameIndex := 120, descriptorIndex := 113, attributes := #[] }, { accessFlags := 26, nameIndex := 49, descriptorIndex := 14, attributes := #[] }, { accessFlags := 26, nameIndex := 52, descriptorIndex := 14, attributes := #[] }, { accessFlags := 26, nameIndex := 55, descriptorIndex := 14, attributes := #[] }, { accessFlags := 26, nameIndex := 94, descriptorIndex := 14, attributes := #[] }, { accessFlags := 26, nameIndex := 97, descriptorIndex := 14, attributes := #[] }, { accessFlags := 26, nameIndex := 122, descriptorIndex := 14, attributes := #[] }, { accessFlags := 24, nameIndex := 123, descriptorIndex := 14, attributes := #[] }, { accessFlags := 24, nameIndex := 102, descriptorIndex := 14, attributes := #[] }, { accessFlags := 24, nameIndex := 105, descriptorIndex := 14, attributes := #[] }, { accessFlags := 24, nameIndex := 108, descriptorIndex := 14, attributes := #[] }, { accessFlags := 24, nameIndex := 111, descriptorIndex := 14, attributes := #[] }, { accessFlags := 26, nameIndex := 66, descriptorIndex := 14, attributes := #[] }, { accessFlags := 26, nameIndex := 69, descriptorIndex := 14, attributes := #[] }, { accessFlags := 18, nameIndex := 13, descriptorIndex := 14, attributes := #[] }, { accessFlags := 2, nameIndex := 17, descriptorIndex := 14, attributes := #[] }])
  fields := #[{ name := "REFERENCE", type := .int, accessFlags := 26, slot := 0, constantValue := 0 }, { name := "HEADER", type := .int, accessFlags := 26, slot := 1, constantValue := 0 }, { name := "ARRAY_HEADER", type := .int, accessFlags := 26, slot := 2, constantValue := 0 }, { name := "ALIGNMENT", type := .int, accessFlags := 26, slot := 3, constantValue := 0 }, { name := "LIST", type := .long, accessFlags := 26, slot := 4, constantValue := 0 }, { name := "COMPOUND", type := .long, accessFlags := 26, slot := 5, constantValue := 0 }, { name := "STRING", type := .long, accessFlags := 26, slot := 6, constantValue := 0 }, { name := "MAP_ENTRY", type := .long, accessFlags := 26, slot := 7, constantValue := 0 }, { name := "FIRST_TABLE", type := .long, accessFlags := 26, slot := 8, constantValue := 0 }, { name := "TABLE_SHARE", type := .long, accessFlags := 26, slot := 9, constantValue := 0 }, { name := "SLOT", type := .long, accessFlags := 24, slot := 10, constantValue := 0 }, { name := "OWN_BYTE", type := .long, accessFlags := 24, slot := 11, constantValue := 0 }, { name := "GROWN_SLOT", type := .long, accessFlags := 24, slot := 12, constantValue := 0 }, { name := "COMMENT", type := .long, accessFlags := 24, slot := 13, constantValue := 0 }, { name := "LAYOUT_ENTRY", type := .long, accessFlags := 24, slot := 14, constantValue := 0 }, { name := "UNMODIFIABLE_LIST", type := .long, accessFlags := 26, slot := 15, constantValue := 0 }, { name := "INTEGER", type := .long, accessFlags := 26, slot := 16, constantValue := 0 }, { name := "max", type := .long, accessFlags := 18, slot := 0, constantValue := 0 }, { name := "left", type := .long, accessFlags := 2, slot := 1, constantValue := 0 }]
  methods := #[k2m0, k2m1]
  instanceTypes := #[.long, .long]
  staticTypes := #[.int, .int, .int, .int, .long, .long, .long, .long, .long, .long, .long, .long, .long, .long, .long, .long, .long]
  resolved := Array.replicate 159 none
  statics := none }

def pool3 : Array CpInfo := pool [(1, u "java/lang/Cloneable"), (0, .class_ 1), (0, u "java/lang/Object"), (0, .class_ 3)] 3

/-- java/lang/Cloneable -/
def k3 : Class := { plain "java/lang/Cloneable" (some 0) with
  accessFlags := 1537
  interfaces := #[]
  cf := some (fileOf pool3 2 #[] #[] 1537 4 #[] #[])
  fields := #[]
  methods := #[]
  instanceTypes := #[]
  staticTypes := #[]
  resolved := Array.replicate 8 none
  statics := none }

def pool4 : Array CpInfo := pool [(1, u "java/io/Serializable"), (0, .class_ 1), (0, u "java/lang/Object"), (0, .class_ 3)] 3

/-- java/io/Serializable -/
def k4 : Class := { plain "java/io/Serializable" (some 0) with
  accessFlags := 1537
  interfaces := #[]
  cf := some (fileOf pool4 2 #[] #[] 1537 4 #[] #[])
  fields := #[]
  methods := #[]
  instanceTypes := #[]
  staticTypes := #[]
  resolved := Array.replicate 8 none
  statics := none }

/-- the primitive byte -/
def k5 : Class := { plain "byte" none with kind := .primitive 'B', accessFlags := 0x411 }
/-- [B -/
def k6 : Class := { plain "[B" (some 0) with kind := .array 5 .byte, interfaces := #[3, 4], accessFlags := 1041 }

/-- the primitive int -/
def k7 : Class := { plain "int" none with kind := .primitive 'I', accessFlags := 0x411 }
/-- [I -/
def k8 : Class := { plain "[I" (some 0) with kind := .array 7 .int, interfaces := #[3, 4], accessFlags := 1041 }

def heap : Heap := #[]
def classes : Array Class := #[k0, k1, k2, k3, k4, k5, k6, k7, k8]
def interned : List (Array UInt16 × Addr) := []
def slotsUsed : Nat := 0
def theMethod : MethodId := ⟨1, 1⟩
def args0 : Array Value := #[.long 3, .long 4, .long 5, .int 6]
def aboutOver (below : List Frame) : State where
  vm := { classes := classes, interned := interned.toArray }
  heap := heap
  slotsUsed := slotsUsed
  threads := #[{ frames := .invoking theMethod args0 :: below }]
def below0 : List Frame := [.native { method := ⟨0, 0⟩, args := #[] }]
def about1 : State := aboutOver below0
def p0 : Program := .bare "" "" ""
def e0 : Env := launch0.env 0 0 0
theorem w_frames : about1.frames = Frame.invoking theMethod args0 :: below0 := rfl
set_option maxRecDepth 65536 in
theorem w_args : argsFit about1.vm theMethod args0 = true := by decide +kernel
set_option maxRecDepth 65536 in
theorem w_heap : heapFits about1 = true := by decide +kernel
set_option maxRecDepth 65536 in
theorem w_runnable : about1.curStatus? = some .runnable := by decide +kernel
set_option maxRecDepth 65536 in
theorem w_alone : about1.alone = true := by decide +kernel
set_option maxRecDepth 65536 in
theorem w_named : about1.methodNamed? x = some theMethod := by decide +kernel
set_option maxRecDepth 65536 in
theorem w_hears : about1.hears theMethod below0 = true := by decide +kernel
set_option maxRecDepth 65536 in
theorem w_ripe : about1.ripe theMethod args0 below0 = true := by decide +kernel
theorem w_running : about1.status = .running := rfl
set_option maxRecDepth 65536 in
theorem w_room : about1.hasRoom e0.platform room_1 = true :=
  launch0.hasRoom_least _ room_1 (by decide +kernel) (by decide +kernel) (by decide +kernel) (by decide +kernel) (by decide +kernel) (by decide +kernel)
theorem allAtoms_all (ts : List Jvm.Cond) (a : Array Jvm.Value) (st : Jvm.State) : (allAtoms ts).before a st = ts.all (fun c => c.before a st) := by
  induction ts with
  | nil => rfl
  | cons c t ih =>
    show (Jvm.Cond.and c (allAtoms t)).before a st = _
    rw [Jvm.Cond.before_and, ih, List.all_cons]
def words1 : List Jvm.Cond := Jvm.Cond.code x code maxLocals ret :: tables_1
/-- a 'code' word, met by the world's own term for the bytes: nothing is compared byte by byte -/
theorem code_word {y : MethodName} {bytes : ByteArray} {mx : Nat} {rt : Option FieldType} {a : Array Value} {s : State} {m : MethodId} {meth : Method} {c : Code} (h1 : s.methodNamed? y = some m) (h2 : s.vm.method? m = some meth) (h3 : meth.code = some c) (h4 : c.code = bytes)
    (h5 : (c.maxLocals == mx && c.exceptionTable.isEmpty && decide (c.maxStack ≤ mostOperands) && decide (meth.sig.returnType = rt) && !meth.locks && decide (parseMethodDescriptor y.desc = some meth.sig)) = true) : (Jvm.Cond.code y bytes mx rt).before a s = true := by
  simp only [Bool.and_eq_true, beq_iff_eq, Bool.not_eq_true', decide_eq_true_eq] at h5
  obtain ⟨⟨⟨⟨⟨g1, g2⟩, g3⟩, g4⟩, g5⟩, g6⟩ := h5
  simp [Cond.before, Cond.holds, Cond.value, h1, h2, h3, h4, g1, g2, g3, g4, g5, g6]
def isCode : Jvm.Cond → Bool
  | .code _ _ _ _ => true
  | _ => false
theorem all_split {L : List Jvm.Cond} {P : Jvm.Cond → Bool} (h1 : L.all (fun c => isCode c || P c) = true) (h2 : ∀ c ∈ L.filter isCode, P c = true) : L.all P = true := by
  refine List.all_eq_true.mpr fun c hc => ?_
  have h := List.all_eq_true.mp h1 c hc
  rcases Bool.eq_false_or_eq_true (isCode c) with hi | hi
  · exact h2 c (List.mem_filter.mpr ⟨hc, hi⟩)
  · simpa [hi] using h
set_option maxRecDepth 65536 in
theorem w_c0 : (Jvm.Cond.code x code maxLocals ret).before args0 about1 = true := code_word (m := ⟨1, 1⟩) (meth := k1m1) (c := k1c1) (by decide +kernel) rfl rfl rfl (by decide +kernel)
set_option maxRecDepth 65536 in
theorem w_c1 : (Jvm.Cond.code ({ cls := "com/example/stringified_tags/stringifiedtags/TreeBudgetTakePinLaw", name := "pick", desc := "(JJI)J" } : Jvm.MethodName) method_3_code (7 : Nat) (Option.some Jvm.ClassFile.FieldType.long)).before args0 about1 = true := code_word (m := ⟨1, 2⟩) (meth := k1m2) (c := k1c2) (by decide +kernel) rfl rfl rfl (by decide +kernel)
set_option maxRecDepth 65536 in
theorem w_c2 : (Jvm.Cond.code ({ cls := "com/example/stringified_tags/stringifiedtags/TreeBudget", name := "<init>", desc := "(J)V" } : Jvm.MethodName) prog_80_method_1_code (3 : Nat) (Option.none : Option Jvm.ClassFile.FieldType)).before args0 about1 = true := code_word (m := ⟨2, 0⟩) (meth := k2m0) (c := k2c0) (by decide +kernel) rfl rfl rfl (by decide +kernel)
set_option maxRecDepth 65536 in
theorem w_c3 : (Jvm.Cond.code ({ cls := "java/lang/Object", name := "<init>", desc := "()V" } : Jvm.MethodName) object_method_1_code (1 : Nat) (Option.none : Option Jvm.ClassFile.FieldType)).before args0 about1 = true := code_word (m := ⟨0, 0⟩) (meth := k0m0) (c := k0c0) (by decide +kernel) rfl rfl rfl (by decide +kernel)
set_option maxRecDepth 65536 in
theorem w_c4 : (Jvm.Cond.code ({ cls := "com/example/stringified_tags/stringifiedtags/TreeBudget", name := "take", desc := "(J)Z" } : Jvm.MethodName) prog_80_method_3_code (4 : Nat) (Option.some Jvm.ClassFile.FieldType.boolean)).before args0 about1 = true := code_word (m := ⟨2, 1⟩) (meth := k2m1) (c := k2c1) (by decide +kernel) rfl rfl rfl (by decide +kernel)
def codes1 : List Jvm.Cond := [Jvm.Cond.code x code maxLocals ret, Jvm.Cond.code ({ cls := "com/example/stringified_tags/stringifiedtags/TreeBudgetTakePinLaw", name := "pick", desc := "(JJI)J" } : Jvm.MethodName) method_3_code (7 : Nat) (Option.some Jvm.ClassFile.FieldType.long), Jvm.Cond.code ({ cls := "com/example/stringified_tags/stringifiedtags/TreeBudget", name := "<init>", desc := "(J)V" } : Jvm.MethodName) prog_80_method_1_code (3 : Nat) (Option.none : Option Jvm.ClassFile.FieldType), Jvm.Cond.code ({ cls := "java/lang/Object", name := "<init>", desc := "()V" } : Jvm.MethodName) object_method_1_code (1 : Nat) (Option.none : Option Jvm.ClassFile.FieldType), Jvm.Cond.code ({ cls := "com/example/stringified_tags/stringifiedtags/TreeBudget", name := "take", desc := "(J)Z" } : Jvm.MethodName) prog_80_method_3_code (4 : Nat) (Option.some Jvm.ClassFile.FieldType.boolean)]
set_option maxRecDepth 65536 in
theorem codes_eq : words1.filter isCode = codes1 := rfl
theorem w_codes : ∀ c ∈ words1.filter isCode, c.before args0 about1 = true := by
  rw [codes_eq]
  intro c hc
  simp only [codes1, List.mem_cons, List.not_mem_nil, or_false] at hc
  rcases hc with rfl | rfl | rfl | rfl | rfl
  · exact w_c0
  · exact w_c1
  · exact w_c2
  · exact w_c3
  · exact w_c4
set_option maxRecDepth 65536 in
theorem w_t1 : words1.all (fun c => isCode c || c.before args0 about1) = true := by decide +kernel
theorem w_tables : (allAtoms (Jvm.Cond.code x code maxLocals ret :: tables_1)).before args0 about1 = true := by
  rw [allAtoms_all]
  show words1.all (fun c => c.before args0 about1) = true
  refine all_split ?_ w_codes
  rw [w_t1]
set_option maxRecDepth 65536 in
theorem w_case : (Jvm.Cond.and given_1 narrow_1).before args0 about1 = true := by decide +kernel
theorem w_applies : (headSpec (Jvm.Cond.code x code maxLocals ret :: tables_1) room_1).applies x e0.platform about1 = true :=
  (Spec.applies_iff w_frames).mpr ⟨w_running, w_runnable, w_alone, w_named, w_hears, w_ripe, w_room, w_tables⟩
theorem atStart : AtStart classFile x code maxLocals ret World_1 tables_1 room_1 Calls_1 rest_1 Pre_1 launch0 p0 e0 about1 theMethod args0 below0 :=
  ⟨lists_1, trivial, launch0.admits_env _ _ _, launch0.least_env, fairChoices_fair.cas, fairChoices_fair.clock, w_frames, w_args, w_heap, w_applies, trivial, trivial, w_case⟩
end start1
theorem witness_1 : WitnessClaimed_1 := ⟨start1.p0, start1.e0, start1.about1, start1.theMethod, start1.args0, start1.below0, start1.atStart⟩
end Jvm.Pilot.@@N@@
