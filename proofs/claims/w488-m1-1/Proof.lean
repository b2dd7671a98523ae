import JvmDerived
import JvmDerived.Pilot.@@N@@Statement
import JvmDerived.Pilot.@@N@@Code
set_option linter.unusedVariables false
set_option linter.unusedSimpArgs false
namespace Jvm.JW
open Sem ClassFile Op Lib Jvm.Stand Jvm.Free Jvm.LawKit Jvm.RoadKit
/-! The walk in continuation form: D holds of a machine state if the run from it ends as the contract says. -/
def Dn (p : Program) (e : Env) (below : List Frame) (s : State) (Q : Option Value → Heap → List Loc → Prop) (k n : Nat) (S : State) : Prop :=
  ∃ s₂ o, Steps p.tables e below S s₂ ∧ s₂.status = .running ∧ Ended s₂ below o ∧ ∃ v L, o = .returned v ∧ Q v s₂.heap L ∧ FrameEnd s o s₂ L k n
def Adv (p : Program) (e : Env) (below : List Frame) (D : State → Prop) : Prop :=
  ∀ {S S' : State}, (∀ {t : State}, Steps p.tables e below S' t → Steps p.tables e below S t) → D S' → D S
theorem Adv.dn {p : Program} {e : Env} {below : List Frame} {s : State} {Q : Option Value → Heap → List Loc → Prop} {k n : Nat} : Adv p e below (Dn p e below s Q k n) := by
  intro S S' h d
  obtain ⟨s2, o, h1, h2⟩ := d
  exact ⟨s2, o, h h1, h2⟩
theorem Adv.tr {p : Program} {e : Env} {below : List Frame} {D : State → Prop} (A : Adv p e below D) {S S' : State} (h : Steps p.tables e below S S') (d : D S') : D S := A (fun k => h.trans k) d
abbrev JMet (l : Launch) (Z : State) (y : MethodName) (bytes : ByteArray) (maxL : Nat) (ret : Option FieldType) (ws : List Cond) (rm : Room) (as' : Array Value) (h0 : Heap) (Q : Option Value → Heap → List Loc → Prop) : Prop :=
  MetFree l y (head1 (Cond.code y bytes maxL ret :: ws) rm) (fun a U => a = as' ∧ Z.Warmed39 U.vm ∧ U.heap = h0) (fun _ _ _ _ _ => True) (fun _ U o U' => ∃ v L, o = .returned v ∧ Q v U'.heap L ∧ FrameEnd U o U' L rm.cells rm.slots)
/-- a body that returns r and leaves the heap as it was -/
def QP (r : Value) (h0 : Heap) (n0 : Nat) (v : Option Value) (h : Heap) (L : List Loc) : Prop := v = some r ∧ Fr n0 L ∧ h = h0
/-- the law: it returns 1; nothing that stood at the start is written -/
def QL (n0 : Nat) (v : Option Value) (h : Heap) (L : List Loc) : Prop := v = some (.int 1) ∧ Fr n0 L
section Kit
variable {p : Program} {l : Launch} {e : Env} {R : Room} {s : State} {m : MethodId} {args : Array Value} {below : List Frame} {meth : Method} {c : Code} {T : State} {locs : List Loc} {cells slots : Nat} {Z : State} {a0 : Array Value} {h : Heap} {D : State → Prop}
theorem ret (X : Stand p l e R s m args below meth c T locs cells slots) (hlk : meth.locks = false) {Q : Option Value → Heap → List Loc → Prop} {k n : Nat} {S : State} {v : Option Value} (hv : meth.sig.returnType = none → v = none)
    (hst : ∀ fs, (∀ (f : JFrame) (acts : List Action), f.method = m → f.locked = none → f.entered = [] → (doReturn e (T.setTop f) acts v).1 = T.setFrames fs) → Steps p.tables e below S (T.setFrames fs))
    {hh : Heap} (eT : T.heap = hh) (hq : Q v hh locs) (hk : cells ≤ k) (hn : slots ≤ n) : Dn p e below s Q k n S := by
  subst eT
  obtain ⟨fs, hr, hrun, hended, hW, hsame⟩ := X.leave (v := v) hv hlk
  exact ⟨_, _, hst fs hr, hrun, hended, _, _, rfl, hq, ⟨_, rfl⟩, hW, hsame.mono hk hn⟩
theorem body {y : MethodName} {bytes : ByteArray} {maxL : Nat} {rt : Option FieldType} {ws : List Cond} {rm : Room} {as' : Array Value} {h0 : Heap} {Q : Option Value → Heap → List Loc → Prop} (Ls : Array Slot) (hpl : plainFor y = true) (hef : ∀ m, entryFrame m as' maxL = mkF m 0 Ls [])
    (bd : ∀ (p : Program) (e : Env) (s : State) (m : MethodId) (below : List Frame) (meth : Method) (c : Code) (T0 : State) (D : State → Prop), Adv p e below D → (∀ S, Dn p e below s Q rm.cells rm.slots S → D S) → Stand p l e rm s m as' below meth c T0 [] 0 0 → p.tables.exec = Jvm.exec → Z.Warmed39 s.vm → c.code = bytes → c.maxLocals = maxL → s.vm.findClass y.cls = some m.cls → meth.name = y.name → meth.sig.returnType = rt → meth.locks = false → T0.heap = h0 → D (T0.setTop (mkF m 0 Ls []))) :
    JMet l Z y bytes maxL rt ws rm as' h0 Q := by
  refine MetFree.of_bodySF hpl hisR ?_
  intro p e s m args below meth c s₁ Bd hml hP hK
  obtain ⟨rfl, hZ, hh⟩ := hP
  have q := bd p e s m below meth c s₁ (Dn p e below s Q rm.cells rm.slots) Adv.dn (fun _ d => d) (Stand.of_body Bd) Bd.exec hZ Bd.bytes hml (findClass_of_methodNamed Bd.named) (name_of_methodNamed Bd.named Bd.method).1 Bd.returns Bd.notSynchronized (by rw [← hh, Bd.state]; rfl)
  rw [← hef m] at q
  exact q
theorem Adv.callS (A : Adv p e below D) (X : Stand p l e R s m args below meth c T locs cells slots) (hx : p.tables.exec = Jvm.exec) (hZ : Z.Warmed39 s.vm) {own : String} {index : Nat} {y : MethodName} {bytes : ByteArray} {maxL : Nat} {rt : Option FieldType} {rm : Room} {as' : Array Value} {Q : Option Value → Heap → List Loc → Prop}
    (hown : s.vm.findClass own = some m.cls) (w1 : (Cond.methodLink own index y).before a0 Z = true) (w2 : (Cond.static y).before a0 Z = true) (w3 : (Cond.initialized y.cls).before a0 Z = true) (w4 : (Cond.code y bytes maxL rt).before a0 Z = true) (eT : T.heap = h)
    (hM : JMet l Z y bytes maxL rt [] rm as' h Q) (W : Nat) {g : JFrame} (hg : g.method = m) (hsz : g.locals.size = c.maxLocals) (argsL rest : List Value) (has : as' = argsL.toArray)
    (hlen : ∀ sig, parseMethodDescriptor y.desc = some sig → argsL.length = sig.parameters.length) (hstack : g.stack = argsL.reverse ++ rest) (hW : 2 * g.monitorRoom + (rest.map fun v => v.category).sum ≤ W)
    (hd : decode c.code g.pc = .ok (.invokestatic index, 3)) (hy : y.cls ≠ "java/lang/invoke/MethodHandle" ∧ y.cls ≠ "java/lang/invoke/VarHandle") (hf : rm.frames + 1 ≤ R.frames) (hl : W + (maxL + 11) + rm.locals ≤ R.locals) (hc : cells + rm.cells ≤ R.cells) (hs : slots + rm.slots ≤ R.slots)
    (k : ∀ (T' : State) (L' : List Loc) (v : Option Value), Stand p l e R s m args below meth c T' (locs ++ L') (cells + rm.cells) (slots + rm.slots) → Q v T'.heap L' → D (T'.setTop { g with pc := g.pc + 3, stack := v.toList ++ rest })) : D (T.setTop g) := by
  subst has
  obtain ⟨v, _, ⟨T', L, k', n'⟩, -, X', ⟨Lc, hQ, l', y', z'⟩, st⟩ := Jvm.LawKit.callS X hx (y := y) hown (mvT hZ w1) (mvT hZ w2) (mvT hZ w3) (mvT hZ w4) hy (backOf (W := W) hM hZ w4 w3 hf hl) (g := g) hg hsz (argsL := argsL) (rest := rest) hlen hstack hW hd (fun _ _ => ⟨rfl, eT, hc, hs⟩)
  dsimp only [Pt.U, Pt.locs, Pt.cells, Pt.slots] at X' l' y' z' st hQ
  subst l' y' z'
  exact A (fun q => st _ q) (k T' Lc v X' hQ)
theorem Adv.callI (A : Adv p e below D) (X : Stand p l e R s m args below meth c T locs cells slots) (hx : p.tables.exec = Jvm.exec) (hZ : Z.Warmed39 s.vm) {own : String} {index : Nat} {y : MethodName} {bytes : ByteArray} {maxL : Nat} {rm : Room} {as' : Array Value} {Q : Option Value → Heap → List Loc → Prop}
    (hown : s.vm.findClass own = some m.cls) (hi : y.name = "<init>") (w1 : (Cond.methodLink own index y).before a0 Z = true) (w2 : (Cond.instanceMethod y).before a0 Z = true) (w3 : (Cond.initialized y.cls).before a0 Z = true) (w4 : (Cond.code y bytes maxL none).before a0 Z = true) (eT : T.heap = h)
    (hM : JMet l Z y bytes maxL none [] rm as' h Q) (W : Nat) {g : JFrame} (hg : g.method = m) (hsz : g.locals.size = c.maxLocals) (a : Addr) (argsL rest : List Value) (has : as' = (.ref a :: argsL).toArray)
    (hlen : ∀ sig, parseMethodDescriptor y.desc = some sig → argsL.length = sig.parameters.length) (hstack : g.stack = argsL.reverse ++ .ref a :: rest) (hW : 2 * g.monitorRoom + (rest.map fun v => v.category).sum ≤ W)
    (hd : decode c.code g.pc = .ok (.invokespecial index, 3)) (hy : y.cls ≠ "java/lang/invoke/MethodHandle" ∧ y.cls ≠ "java/lang/invoke/VarHandle") (hf : rm.frames + 1 ≤ R.frames) (hl : W + (maxL + 11) + rm.locals ≤ R.locals) (hc : cells + rm.cells ≤ R.cells) (hs : slots + rm.slots ≤ R.slots)
    (k : ∀ (T' : State) (L' : List Loc) (v : Option Value), Stand p l e R s m args below meth c T' (locs ++ L') (cells + rm.cells) (slots + rm.slots) → Q v T'.heap L' → D (T'.setTop { g with pc := g.pc + 3, stack := v.toList ++ rest })) : D (T.setTop g) := by
  subst has
  obtain ⟨v, _, ⟨T', L, k', n'⟩, -, X', ⟨Lc, hQ, l', y', z'⟩, st⟩ := X.specialBack hx (y := y) hi hown (mvT hZ w1) (mvT hZ w2) (mvT hZ w4) hy (backOf (W := W) hM hZ w4 w3 hf hl) (g := g) hg hsz (Steps.refl _) (a := a) (argsL := argsL) (rest := rest) hlen hstack hW hd (fun _ _ => ⟨rfl, eT, hc, hs⟩)
  dsimp only [Pt.U, Pt.locs, Pt.cells, Pt.slots] at X' l' y' z' st hQ
  subst l' y' z'
  exact A.tr st (k T' Lc v X' hQ)
theorem Adv.callV (A : Adv p e below D) (X : Stand p l e R s m args below meth c T locs cells slots) (hx : p.tables.exec = Jvm.exec) (hZ : Z.Warmed39 s.vm) {own C : String} {index : Nat} {y z : MethodName} {bytes : ByteArray} {maxL : Nat} {rt : Option FieldType} {rm : Room} {as' : Array Value} {Q : Option Value → Heap → List Loc → Prop} {a : Addr}
    (hown : s.vm.findClass own = some m.cls) (w1 : (Cond.methodLink own index y).before a0 Z = true) (w2 : (Cond.declares y).before a0 Z = true) (nf : NotFace s y) (w5 : (Cond.selects C y z).before a0 Z = true) (w6 : (Cond.instanceMethod z).before a0 Z = true) (w3 : (Cond.initialized z.cls).before a0 Z = true) (w4 : (Cond.code z bytes maxL rt).before a0 Z = true) (eT : T.heap = h) (E : Exa Z h a C)
    (hM : JMet l Z z bytes maxL rt [] rm as' h Q) (W : Nat) {g : JFrame} (hg : g.method = m) (hsz : g.locals.size = c.maxLocals) (argsL rest : List Value) (has : as' = (.ref a :: argsL).toArray)
    (hlen : ∀ sig, parseMethodDescriptor y.desc = some sig → argsL.length = sig.parameters.length) (hstack : g.stack = argsL.reverse ++ .ref a :: rest) (hW : 2 * g.monitorRoom + (rest.map fun v => v.category).sum ≤ W)
    (hd : decode c.code g.pc = .ok (.invokevirtual index, 3)) (hy : y.cls ≠ "java/lang/invoke/MethodHandle" ∧ y.cls ≠ "java/lang/invoke/VarHandle") (hf : rm.frames + 1 ≤ R.frames) (hl : W + (maxL + 11) + rm.locals ≤ R.locals) (hc : cells + rm.cells ≤ R.cells) (hs : slots + rm.slots ≤ R.slots)
    (k : ∀ (T' : State) (L' : List Loc) (v : Option Value), Stand p l e R s m args below meth c T' (locs ++ L') (cells + rm.cells) (slots + rm.slots) → Q v T'.heap L' → D (T'.setTop { g with pc := g.pc + 3, stack := v.toList ++ rest })) : D (T.setTop g) := by
  subst has
  obtain ⟨cq, kq, qa, qb, qc⟩ := isOf hZ eT E
  obtain ⟨v, _, ⟨T', L, k', n'⟩, -, X', ⟨Lc, hQ, l', y', z'⟩, st⟩ := X.virtualBack hx (y := y) (z := z) hown (mvT hZ w1) (mvT hZ w2) nf (mvT hZ w5) (mvT hZ w6) hy (backOf (W := W) hM hZ w4 w3 hf hl) qa qc (g := g) hg hsz (Steps.refl _) (argsL := argsL) (rest := rest) hlen hstack hW hd (fun _ _ => ⟨rfl, eT, hc, hs⟩)
  dsimp only [Pt.U, Pt.locs, Pt.cells, Pt.slots] at X' l' y' z' st hQ
  subst l' y' z'
  exact A.tr st (k T' Lc v X' hQ)
theorem Adv.callU (A : Adv p e below D) (X : Stand p l e R s m args below meth c T locs cells slots) (hx : p.tables.exec = Jvm.exec) (hZ : Z.Warmed39 s.vm) {own C owner : String} {index : Nat} {y z : MethodName} {bytes : ByteArray} {maxL : Nat} {rt : Option FieldType} {rm : Room} {as' : Array Value} {Q : Option Value → Heap → List Loc → Prop} {a : Addr}
    (hown : s.vm.findClass own = some m.cls) (w1 : (Cond.methodLink own index y).before a0 Z = true) (w7 : (Cond.sameMethod y.cls owner y.name y.desc).before a0 Z = true) (w2 : (Cond.declares ⟨owner, y.name, y.desc⟩).before a0 Z = true) (w5 : (Cond.selects C y z).before a0 Z = true) (w6 : (Cond.instanceMethod z).before a0 Z = true) (w3 : (Cond.initialized z.cls).before a0 Z = true) (w4 : (Cond.code z bytes maxL rt).before a0 Z = true) (eT : T.heap = h) (E : Exa Z h a C)
    (hM : JMet l Z z bytes maxL rt [] rm as' h Q) (W : Nat) {g : JFrame} (hg : g.method = m) (hsz : g.locals.size = c.maxLocals) (argsL rest : List Value) (has : as' = (.ref a :: argsL).toArray)
    (hlen : ∀ sig, parseMethodDescriptor y.desc = some sig → argsL.length = sig.parameters.length) (hstack : g.stack = argsL.reverse ++ .ref a :: rest) (hW : 2 * g.monitorRoom + (rest.map fun v => v.category).sum ≤ W)
    (hd : decode c.code g.pc = .ok (.invokevirtual index, 3)) (hy : owner ≠ "java/lang/invoke/MethodHandle" ∧ owner ≠ "java/lang/invoke/VarHandle") (hf : rm.frames + 1 ≤ R.frames) (hl : W + (maxL + 11) + rm.locals ≤ R.locals) (hc : cells + rm.cells ≤ R.cells) (hs : slots + rm.slots ≤ R.slots)
    (k : ∀ (T' : State) (L' : List Loc) (v : Option Value), Stand p l e R s m args below meth c T' (locs ++ L') (cells + rm.cells) (slots + rm.slots) → Q v T'.heap L' → D (T'.setTop { g with pc := g.pc + 3, stack := v.toList ++ rest })) : D (T.setTop g) := by
  subst has
  obtain ⟨cq, kq, qa, qb, qc⟩ := isOf hZ eT E
  obtain ⟨v, _, ⟨T', L, k', n'⟩, -, X', ⟨Lc, hQ, l', y', z'⟩, st⟩ := X.virtualBackUp hx (x := y) (y := z) (owner := owner) hown (mvT hZ w1) (mvT hZ w7) (mvT hZ w2) hy (mvT hZ w5) (mvT hZ w6) (backOf (W := W) hM hZ w4 w3 hf hl) qa qc (g := g) hg hsz (Steps.refl _) (argsL := argsL) (rest := rest) hlen hstack hW hd (fun _ _ => ⟨rfl, eT, hc, hs⟩)
  dsimp only [Pt.U, Pt.locs, Pt.cells, Pt.slots] at X' l' y' z' st hQ
  subst l' y' z'
  exact A.tr st (k T' Lc v X' hQ)
theorem Adv.callP (A : Adv p e below D) (X : Stand p l e R s m args below meth c T locs cells slots) (hx : p.tables.exec = Jvm.exec) (hZ : Z.Warmed39 s.vm) {own C : String} {index kn : Nat} {y : MethodName} {bytes : ByteArray} {maxL : Nat} {rt : Option FieldType} {rm : Room} {as' : Array Value} {Q : Option Value → Heap → List Loc → Prop} {a : Addr}
    (hown : s.vm.findClass own = some m.cls) (w1 : (Cond.methodLink own index y).before a0 Z = true) (w2 : (Cond.instanceMethod y).before a0 Z = true) (wi : (Cond.instantiable y.cls kn).before a0 Z = true) (w5 : (Cond.privateMethod y).before a0 Z = true) (w3 : (Cond.initialized y.cls).before a0 Z = true) (w4 : (Cond.code y bytes maxL rt).before a0 Z = true) (eT : T.heap = h) (E : Exa Z h a C)
    (hM : JMet l Z y bytes maxL rt [] rm as' h Q) (W : Nat) {g : JFrame} (hg : g.method = m) (hsz : g.locals.size = c.maxLocals) (argsL rest : List Value) (has : as' = (.ref a :: argsL).toArray)
    (hlen : ∀ sig, parseMethodDescriptor y.desc = some sig → argsL.length = sig.parameters.length) (hstack : g.stack = argsL.reverse ++ .ref a :: rest) (hW : 2 * g.monitorRoom + (rest.map fun v => v.category).sum ≤ W)
    (hd : decode c.code g.pc = .ok (.invokevirtual index, 3)) (hy : y.cls ≠ "java/lang/invoke/MethodHandle" ∧ y.cls ≠ "java/lang/invoke/VarHandle") (hf : rm.frames + 1 ≤ R.frames) (hl : W + (maxL + 11) + rm.locals ≤ R.locals) (hc : cells + rm.cells ≤ R.cells) (hs : slots + rm.slots ≤ R.slots)
    (k : ∀ (T' : State) (L' : List Loc) (v : Option Value), Stand p l e R s m args below meth c T' (locs ++ L') (cells + rm.cells) (slots + rm.slots) → Q v T'.heap L' → D (T'.setTop { g with pc := g.pc + 3, stack := v.toList ++ rest })) : D (T.setTop g) := by
  subst has
  obtain ⟨ce, hce, hob⟩ := E.cell
  have hpriv : s.PrivateAt y := Cond.privateMethod_at (mvP hZ w5 (args := #[]))
  have hins : (Cond.instanceMethod y).before args s = true := mvT hZ w2
  have hwi : (Cond.instantiable y.cls kn).before args s = true := mvT hZ wi
  obtain ⟨ck, kk, c1, c2, -, c4, -⟩ := Cond.instantiable_spec hwi
  have hsel := selects_self_of_private c1 c2 (Bool.or_eq_false_iff.mp c4).1 hpriv hins hy
  obtain ⟨v, _, ⟨T', L, k', n'⟩, -, X', ⟨Lc, hQ, l', y', z'⟩, st⟩ := X.privateBack hx (y := y) hown (mvT hZ w1) hins hsel hpriv (mvT hZ w4) hy (backOf (W := W) hM hZ w4 w3 hf hl) (g := g) hg hsz (Steps.refl _) (a := a) (cell := ce) (by rw [eT]; exact hce) hob (argsL := argsL) (rest := rest) hlen hstack hW hd (fun _ _ => ⟨rfl, eT, hc, hs⟩)
  dsimp only [Pt.U, Pt.locs, Pt.cells, Pt.slots] at X' l' y' z' st hQ
  subst l' y' z'
  exact A.tr st (k T' Lc v X' hQ)
end Kit
/-! ### arrays by a function of the place -/
section Arrays
variable {p : Program} {l : Launch} {e : Env} {R : Room} {s : State} {m : MethodId} {args : Array Value} {below : List Frame} {meth : Method} {c : Code} {T : State} {locs : List Loc} {cells slots : Nat} {Z : State} {a0 : Array Value} {h h' : Heap} {D : State → Prop} {a b : Addr} {ty : FieldType} {n : Nat} {f : Nat → Int32} {fJ : Nat → Int64} {sl : Nat} {v : Value} {ws : List Addr}
def ArI (Z : State) (h : Heap) (a : Addr) (ty : FieldType) (n : Nat) (f : Nat → Int32) : Prop :=
  n < 2147483648 ∧ ∃ c : Cell, Arr Z h a c ty ∧ c.slots.size = n ∧ ∀ i, i < n → c.slots[i]? = some (.int (f i))
def ArJ (Z : State) (h : Heap) (a : Addr) (n : Nat) (f : Nat → Int64) : Prop :=
  n < 2147483648 ∧ ∃ c : Cell, Arr Z h a c .long ∧ c.slots.size = n ∧ ∀ i, i < n → c.slots[i]? = some (.long (f i))
theorem ArI.lt (F : ArI Z h a ty n f) : a < h.size := by obtain ⟨-, c, A, -⟩ := F; exact A.lt
theorem ArI.ext (F : ArI Z h a ty n f) (E : Ext h h') : ArI Z h' a ty n f := by obtain ⟨q, c, A, r⟩ := F; exact ⟨q, c, A.ext E, r⟩
theorem ArI.other (F : ArI Z h b ty n f) (W : Wr h h' a sl v) (q : b ≠ a) : ArI Z h' b ty n f := by obtain ⟨z, c, A, r⟩ := F; exact ⟨z, c, A.other W q, r⟩
theorem ArI.keep (F : ArI Z h a ty n f) (K : Keep h h' ws) (q : a ∉ ws) : ArI Z h' a ty n f := by obtain ⟨z, c, A, r⟩ := F; exact ⟨z, c, ⟨K.2.1 a c A.1 q, A.2⟩, r⟩
theorem ArI.eqf {g : Nat → Int32} (F : ArI Z h a ty n f) (q : ∀ i, i < n → f i = g i) : ArI Z h a ty n g := by
  obtain ⟨z, c, A, r, H⟩ := F; exact ⟨z, c, A, r, fun i hi => by rw [← q i hi]; exact H i hi⟩
theorem ArJ.lt (F : ArJ Z h a n fJ) : a < h.size := by obtain ⟨-, c, A, -⟩ := F; exact A.lt
theorem ArJ.ext (F : ArJ Z h a n fJ) (E : Ext h h') : ArJ Z h' a n fJ := by obtain ⟨q, c, A, r⟩ := F; exact ⟨q, c, A.ext E, r⟩
theorem ArJ.other (F : ArJ Z h b n fJ) (W : Wr h h' a sl v) (q : b ≠ a) : ArJ Z h' b n fJ := by obtain ⟨z, c, A, r⟩ := F; exact ⟨z, c, A.other W q, r⟩
theorem ArJ.keep (F : ArJ Z h a n fJ) (K : Keep h h' ws) (q : a ∉ ws) : ArJ Z h' a n fJ := by obtain ⟨z, c, A, r⟩ := F; exact ⟨z, c, ⟨K.2.1 a c A.1 q, A.2⟩, r⟩
theorem ArJ.eqf {g : Nat → Int64} (F : ArJ Z h a n fJ) (q : ∀ i, i < n → fJ i = g i) : ArJ Z h a n g := by
  obtain ⟨z, c, A, r, H⟩ := F; exact ⟨z, c, A, r, fun i hi => by rw [← q i hi]; exact H i hi⟩
theorem ne_ari {C : String} {k : Nat} (F : Exa Z h a C) (wi : (Cond.instantiable C k).before a0 Z = true) (G : ArI Z h b ty n f) : a ≠ b := by obtain ⟨-, c, A, -⟩ := G; exact ne_arr F wi A
theorem ne_arj {C : String} {k : Nat} (F : Exa Z h a C) (wi : (Cond.instantiable C k).before a0 Z = true) (G : ArJ Z h b n fJ) : a ≠ b := by obtain ⟨-, c, A, -⟩ := G; exact ne_arr F wi A
theorem ne_arr2 {c1 c2 : Cell} {t1 t2 : FieldType} (F : Arr Z h a c1 t1) (G : Arr Z h b c2 t2) (hn : t1 ≠ t2) : a ≠ b := fun q => by
  subst q
  cases F.1.symm.trans G.1
  obtain ⟨-, k1, j1, comp1, j2⟩ := F.2.1
  obtain ⟨-, k2, i1, comp2, i2⟩ := G.2.1
  cases j1.symm.trans i1
  rw [j2] at i2
  injection i2 with _ q2
  exact hn q2
theorem ne_aij {n' : Nat} (F : ArI Z h a ty n f) (G : ArJ Z h b n' fJ) (hn : ty ≠ .long) : a ≠ b := by obtain ⟨-, c, A, -⟩ := F; obtain ⟨-, c', A', -⟩ := G; exact ne_arr2 A A' hn
theorem to_nat {j : Int32} {k : Nat} (hk : j.toInt = k) : j.toNatClampNeg = k := by simp only [Int32.toNatClampNeg, hk, Int.toNat_natCast]
theorem inb {cl : Cell} {j : Int32} {k : Nat} (hk : j.toInt = k) (hkn : k < n) (hs : cl.slots.size = n) : ¬ (j < 0 ∨ cl.slots.size ≤ j.toNatClampNeg) := by
  rw [to_nat hk, hs, Int32.lt_iff_toInt_lt, hk, show (0 : Int32).toInt = 0 from rfl]; omega
theorem ixadd {x d : Int32} {k j : Nat} (hx : x.toInt = k) (hd : d.toInt = j) (h : k + j < 2147483648) : (x + d).toInt = ((k + j : Nat) : Int) := by
  have h2 := c_iadd x d
  have h3 := rng32 (x + d)
  omega
theorem ArI.mk {k : ClassId} {z : Int32} (A : Arr Z h a (newA k ty z) ty) (hn : z.toInt = n) (hd : defaultValue ty = .int 0) : ArI Z h a ty n (fun _ => 0) := by
  have hz := to_nat hn
  refine ⟨?_, _, A, by rw [sz_new, hz], fun i hi => ?_⟩
  · have := Int32.toInt_lt z; omega
  · simp [newA, hz, hi, hd]
theorem ArJ.mk {k : ClassId} {z : Int32} (A : Arr Z h a (newA k .long z) .long) (hn : z.toInt = n) : ArJ Z h a n (fun _ => 0) := by
  have hz := to_nat hn
  refine ⟨?_, _, A, by rw [sz_new, hz], fun i hi => ?_⟩
  · have := Int32.toInt_lt z; omega
  · simp [newA, hz, hi, defaultValue]
theorem set_at {cl : Cell} {i k : Nat} (hk : k < cl.slots.size) : (cl.setSlot k v).slots[i]? = if i = k then some v else cl.slots[i]? := by
  simp only [Cell.setSlot, Array.getElem?_setIfInBounds]
  by_cases q : i = k
  · subst q; simp [hk]
  · simp [q, Ne.symm q]
theorem ArI.set {x : Int32} {k : Nat} (F : ArI Z h a ty n f) (W : Wr h h' a k (.int x)) (hk : k < n) : ArI Z h' a ty n (fun i => if i = k then x else f i) := by
  obtain ⟨z, c, A, r, H⟩ := F
  refine ⟨z, _, A.same W, by rw [sz_set, r], fun i hi => ?_⟩
  rw [set_at (by omega)]
  by_cases q : i = k
  · simp [q]
  · simp [q, H i hi]
theorem ArJ.set {x : Int64} {k : Nat} (F : ArJ Z h a n fJ) (W : Wr h h' a k (.long x)) (hk : k < n) : ArJ Z h' a n (fun i => if i = k then x else fJ i) := by
  obtain ⟨z, c, A, r, H⟩ := F
  refine ⟨z, _, A.same W, by rw [sz_set, r], fun i hi => ?_⟩
  rw [set_at (by omega)]
  by_cases q : i = k
  · simp [q]
  · simp [q, H i hi]
theorem Adv.ldI (A : Adv p e below D) (X : Stand p l e R s m args below meth c T locs cells slots) (hx : p.tables.exec = Jvm.exec) (hZ : Z.Warmed39 s.vm) (eT : T.heap = h) (F : ArI Z h a .int n f) {j : Int32} {k : Nat} (hk : j.toInt = k) (hkn : k < n) {g : JFrame} (hg : g.method = m) {rest : List Value} (hs : g.stack = .int j :: .ref a :: rest) (hd : decode c.code g.pc = .ok (.iaload, 1))
    (kk : D (T.setTop { g with pc := g.pc + 1, stack := .int (f k) :: rest })) : D (T.setTop g) := by
  obtain ⟨-, cl, Ar, r, H⟩ := F
  exact A (X.iaload hx (j := j) (v := .int (f k)) (by rw [eT]; exact Ar.1) (State.isArrayOf_alike hZ.alike Ar.2.1) Ar.2.2 (inb hk hkn r) (by rw [to_nat hk]; exact H k hkn) (g := g) hg hs hd _) kk
theorem Adv.ldB (A : Adv p e below D) (X : Stand p l e R s m args below meth c T locs cells slots) (hx : p.tables.exec = Jvm.exec) (hZ : Z.Warmed39 s.vm) (eT : T.heap = h) (F : ArI Z h a .byte n f) {j : Int32} {k : Nat} (hk : j.toInt = k) (hkn : k < n) {g : JFrame} (hg : g.method = m) {rest : List Value} (hs : g.stack = .int j :: .ref a :: rest) (hd : decode c.code g.pc = .ok (.baload, 1))
    (kk : D (T.setTop { g with pc := g.pc + 1, stack := .int (f k) :: rest })) : D (T.setTop g) := by
  obtain ⟨-, cl, Ar, r, H⟩ := F
  exact A (X.baloadBytes hx (j := j) (v := .int (f k)) (by rw [eT]; exact Ar.1) (State.isArrayOf_alike hZ.alike Ar.2.1) Ar.2.2 (inb hk hkn r) (by rw [to_nat hk]; exact H k hkn) (g := g) hg hs hd _) kk
theorem Adv.ldJ (A : Adv p e below D) (X : Stand p l e R s m args below meth c T locs cells slots) (hx : p.tables.exec = Jvm.exec) (hZ : Z.Warmed39 s.vm) (eT : T.heap = h) (F : ArJ Z h a n fJ) {j : Int32} {k : Nat} (hk : j.toInt = k) (hkn : k < n) {g : JFrame} (hg : g.method = m) {rest : List Value} (hs : g.stack = .int j :: .ref a :: rest) (hd : decode c.code g.pc = .ok (.laload, 1))
    (kk : D (T.setTop { g with pc := g.pc + 1, stack := .long (fJ k) :: rest })) : D (T.setTop g) := by
  obtain ⟨-, cl, Ar, r, H⟩ := F
  exact A (X.laload hx (j := j) (v := .long (fJ k)) (by rw [eT]; exact Ar.1) (State.isArrayOf_alike hZ.alike Ar.2.1) Ar.2.2 (inb hk hkn r) (by rw [to_nat hk]; exact H k hkn) (g := g) hg hs hd _) kk
theorem len32 {cl : Cell} (z : n < 2147483648) (r : cl.slots.size = n) : cl.slots.size.toInt32 = Int32.ofNat n   := by rw [r]
theorem Adv.lenI (A : Adv p e below D) (X : Stand p l e R s m args below meth c T locs cells slots) (hx : p.tables.exec = Jvm.exec) (hZ : Z.Warmed39 s.vm) (eT : T.heap = h) (F : ArI Z h a ty n f) {g : JFrame} (hg : g.method = m) {rest : List Value} (hs : g.stack = .ref a :: rest) (hd : decode c.code g.pc = .ok (.arraylength, 1))
    (kk : D (T.setTop { g with pc := g.pc + 1, stack := .int (Int32.ofNat n) :: rest })) : D (T.setTop g) := by
  obtain ⟨z, cl, Ar, r, H⟩ := F
  rw [← len32 z r] at kk
  exact A (X.arraylength hx (by rw [eT]; exact Ar.1) (State.isArrayOf_alike hZ.alike Ar.2.1) (g := g) hg hs hd _) kk
theorem Adv.lenJ (A : Adv p e below D) (X : Stand p l e R s m args below meth c T locs cells slots) (hx : p.tables.exec = Jvm.exec) (hZ : Z.Warmed39 s.vm) (eT : T.heap = h) (F : ArJ Z h a n fJ) {g : JFrame} (hg : g.method = m) {rest : List Value} (hs : g.stack = .ref a :: rest) (hd : decode c.code g.pc = .ok (.arraylength, 1))
    (kk : D (T.setTop { g with pc := g.pc + 1, stack := .int (Int32.ofNat n) :: rest })) : D (T.setTop g) := by
  obtain ⟨z, cl, Ar, r, H⟩ := F
  rw [← len32 z r] at kk
  exact A (X.arraylength hx (by rw [eT]; exact Ar.1) (State.isArrayOf_alike hZ.alike Ar.2.1) (g := g) hg hs hd _) kk
theorem Adv.stI (A : Adv p e below D) (X : Stand p l e R s m args below meth c T locs cells slots) (hx : p.tables.exec = Jvm.exec) (hZ : Z.Warmed39 s.vm) (eT : T.heap = h) (F : ArI Z h a .int n f) {j x : Int32} {k : Nat} (hk : j.toInt = k) (hkn : k < n) {g : JFrame} (hg : g.method = m) {rest : List Value} (hs : g.stack = .int x :: .int j :: .ref a :: rest) (hd : decode c.code g.pc = .ok (.iastore, 1))
    (kk : ∀ T' h', Stand p l e R s m args below meth c T' (locs ++ [⟨a, k⟩]) cells slots → T'.heap = h' → Wr h h' a k (.int x) → ArI Z h' a .int n (fun i => if i = k then x else f i) → D (T'.setTop { g with pc := g.pc + 1, stack := rest })) : D (T.setTop g) := by
  obtain ⟨cl, Ar, r, H⟩ := F.2
  obtain ⟨T', h', X', e', W, st⟩ := Jvm.RoadKit.stI X hx hZ eT Ar (j := j) (x := x) (inb hk hkn r) hg hs hd
  rw [to_nat hk] at X' W
  exact A (fun q => st _ q) (kk T' h' X' e' W (F.set W hkn))
theorem Adv.stB (A : Adv p e below D) (X : Stand p l e R s m args below meth c T locs cells slots) (hx : p.tables.exec = Jvm.exec) (hZ : Z.Warmed39 s.vm) (eT : T.heap = h) (F : ArI Z h a .byte n f) {j x : Int32} {k : Nat} (hk : j.toInt = k) (hkn : k < n) {g : JFrame} (hg : g.method = m) {rest : List Value} (hs : g.stack = .int x :: .int j :: .ref a :: rest) (hd : decode c.code g.pc = .ok (.bastore, 1))
    (kk : ∀ T' h', Stand p l e R s m args below meth c T' (locs ++ [⟨a, k⟩]) cells slots → T'.heap = h' → Wr h h' a k (.int x.toInt8.toInt32) → ArI Z h' a .byte n (fun i => if i = k then x.toInt8.toInt32 else f i) → D (T'.setTop { g with pc := g.pc + 1, stack := rest })) : D (T.setTop g) := by
  obtain ⟨cl, Ar, r, H⟩ := F.2
  obtain ⟨T', h', X', e', W, st⟩ := Jvm.RoadKit.stB X hx hZ eT Ar (j := j) (x := x) (inb hk hkn r) hg hs hd
  rw [to_nat hk] at X' W
  exact A (fun q => st _ q) (kk T' h' X' e' W (F.set W hkn))
theorem Adv.stJ (A : Adv p e below D) (X : Stand p l e R s m args below meth c T locs cells slots) (hx : p.tables.exec = Jvm.exec) (hZ : Z.Warmed39 s.vm) (eT : T.heap = h) (F : ArJ Z h a n fJ) {j : Int32} {x : Int64} {k : Nat} (hk : j.toInt = k) (hkn : k < n) {g : JFrame} (hg : g.method = m) {rest : List Value} (hs : g.stack = .long x :: .int j :: .ref a :: rest) (hd : decode c.code g.pc = .ok (.lastore, 1))
    (kk : ∀ T' h', Stand p l e R s m args below meth c T' (locs ++ [⟨a, k⟩]) cells slots → T'.heap = h' → Wr h h' a k (.long x) → ArJ Z h' a n (fun i => if i = k then x else fJ i) → D (T'.setTop { g with pc := g.pc + 1, stack := rest })) : D (T.setTop g) := by
  obtain ⟨cl, Ar, r, H⟩ := F.2
  obtain ⟨T', h', X', e', W, st⟩ := Jvm.RoadKit.stJ X hx hZ eT Ar (j := j) (x := x) (inb hk hkn r) hg hs hd
  rw [to_nat hk] at X' W
  exact A (fun q => st _ q) (kk T' h' X' e' W (F.set W hkn))
theorem Adv.newI (A : Adv p e below D) (X : Stand p l e R s m args below meth c T locs cells slots) (hx : p.tables.exec = Jvm.exec) (hZ : Z.Warmed39 s.vm) {aty : ArrayType} (w : (Cond.arrayClass (newarray.typeOf aty)).before a0 Z = true) (eT : T.heap = h) {z : Int32} (hz : z.toInt = n) (cap : Nat) (hcap : n ≤ cap) (hb : cap * 8 ≤ 536870912) (hdv : defaultValue (newarray.typeOf aty) = .int 0) {ad : String} (had : "[" ++ (newarray.typeOf aty).toString = ad) (hc : cells + 1 ≤ R.cells) (hl : slots + cap ≤ R.slots) {g : JFrame} (hg : g.method = m) {rest : List Value} (hs : g.stack = .int z :: rest) (hd : decode c.code g.pc = .ok (.newarray aty, 2))
    (kk : ∀ T' h' a, a = h.size → Stand p l e R s m args below meth c T' locs (cells + 1) (slots + cap) → T'.heap = h' → Ext h h' → ArI Z h' a (newarray.typeOf aty) n (fun _ => 0) → Exa Z h' a ad → D (T'.setTop { g with pc := g.pc + 2, stack := .ref a :: rest })) : D (T.setTop g) := by
  have q0 : ¬ z < 0 := by rw [Int32.lt_iff_toInt_lt, hz, show (0 : Int32).toInt = 0 from rfl]; omega
  obtain ⟨T', h', k, X', e', E, Ar, Ex, st⟩ := newPE X hx hZ w eT hg hd hs q0 (cap := cap) (by rw [to_nat hz]; exact hcap) hb hc hl had
  exact A (fun q => st _ q) (kk T' h' _ rfl X' e' E (ArI.mk Ar hz hdv) Ex)
theorem Adv.newJ (A : Adv p e below D) (X : Stand p l e R s m args below meth c T locs cells slots) (hx : p.tables.exec = Jvm.exec) (hZ : Z.Warmed39 s.vm) (w : (Cond.arrayClass .long).before a0 Z = true) (eT : T.heap = h) {z : Int32} (hz : z.toInt = n) (cap : Nat) (hcap : n ≤ cap) (hb : cap * 8 ≤ 536870912) (hc : cells + 1 ≤ R.cells) (hl : slots + cap ≤ R.slots) {g : JFrame} (hg : g.method = m) {rest : List Value} (hs : g.stack = .int z :: rest) (hd : decode c.code g.pc = .ok (.newarray .long, 2))
    (kk : ∀ T' h' a, a = h.size → Stand p l e R s m args below meth c T' locs (cells + 1) (slots + cap) → T'.heap = h' → Ext h h' → ArJ Z h' a n (fun _ => 0) → D (T'.setTop { g with pc := g.pc + 2, stack := .ref a :: rest })) : D (T.setTop g) := by
  have q0 : ¬ z < 0 := by rw [Int32.lt_iff_toInt_lt, hz, show (0 : Int32).toInt = 0 from rfl]; omega
  obtain ⟨T', h', k, X', e', E, Ar, st⟩   := newP (aty := .long) X hx hZ w eT hg hd hs q0 (cap := cap) (by rw [to_nat hz]; exact hcap) hb hc hl
  exact A (fun q => st _ q) (kk T' h' _ rfl X' e' E (ArJ.mk Ar hz))
theorem Adv.cloneI (A : Adv p e below D) (X : Stand p l e R s m args below meth c T locs cells slots) (hx : p.tables.exec = Jvm.exec) (hZ : Z.Warmed39 s.vm) {own ad : String} {index : Nat} (hown : s.vm.findClass own = some m.cls)
    (w1 : (Cond.methodLink own index ⟨ad, "clone", "()Ljava/lang/Object;"⟩).before a0 Z = true) (w2 : (Cond.sameMethod ad "java/lang/Object" "clone" "()Ljava/lang/Object;").before a0 Z = true) (w3 : (Cond.native ⟨"java/lang/Object", "clone", "()Ljava/lang/Object;"⟩).before a0 Z = true)
    (w4 : (Cond.instanceMethod ⟨"java/lang/Object", "clone", "()Ljava/lang/Object;"⟩).before a0 Z = true) (w5 : (Cond.selects ad ⟨ad, "clone", "()Ljava/lang/Object;"⟩ ⟨"java/lang/Object", "clone", "()Ljava/lang/Object;"⟩).before a0 Z = true) (w6 : (Cond.castable ad "java/lang/Cloneable").before a0 Z = true)
    (eT : T.heap = h) (F : ArI Z h a ty n f) (hfit : ∀ i, i < n → fits ty (.int (f i)) = true) (E : Exa Z h a ad) (W cap : Nat) (hcap : n ≤ cap) {g : JFrame} (hg : g.method = m) (hsz : g.locals.size = c.maxLocals) {rest : List Value} (hs : g.stack = .ref a :: rest) (hd : decode c.code g.pc = .ok (.invokevirtual index, 3))
    (hW : 2 * g.monitorRoom + (rest.map fun v => v.category).sum ≤ W) (hf : 1 ≤ R.frames) (hl : W + 14 ≤ R.locals) (hc : cells + 1 ≤ R.cells) (hsl : slots + cap ≤ R.slots)
    (kk : ∀ T' h' b, b = h.size → Stand p l e R s m args below meth c T' locs (cells + 1) (slots + cap) → T'.heap = h' → Ext h h' → ArI Z h' b ty n f → Exa Z h' b ad → D (T'.setTop { g with pc := g.pc + 3, stack := .ref b :: rest })) : D (T.setTop g) := by
  obtain ⟨z, cl, Ar, r, H⟩ := F
  have FC : FitC Z cl := fitC_of Ar fun i hi v hv => by rw [H i (by omega)] at hv; cases hv; exact hfit i (by omega)
  obtain ⟨T', h', X', e', Ex, Ar', E', st⟩ := cloneA X hx hZ hown w1 w2 w3 w4 w5 w6 eT Ar E FC hg hsz hs hd hf hW hl (by rw [r]; exact hcap) hc hsl
  exact A (fun q => st _ q) (kk T' h' _ rfl X' e' Ex ⟨z, _, Ar', r, H⟩ E')
end Arrays
end Jvm.JW
namespace Jvm.Pilot.@@N@@
open Jvm Jvm.ClassFile Sem Op Lib Jvm.Free Jvm.Stand Jvm.LawKit Jvm.RoadKit Bundle Jvm.JW Jvm.Pilot.@@N@@.Jvm.D
theorem d1_0 : decode prog_25_method_4_code 0 = .ok (.iload_n 0, 1) := by decide +kernel
theorem d1_1 : decode prog_25_method_4_code 1 = .ok (.sipush 128, 3) := by decide +kernel
theorem d1_4 : decode prog_25_method_4_code 4 = .ok (.if_icmp .ge 33, 3) := by decide +kernel
theorem d1_7 : decode prog_25_method_4_code 7 = .ok (.iload_n 0, 1) := by decide +kernel
theorem d1_8 : decode prog_25_method_4_code 8 = .ok (.bipush 97, 2) := by decide +kernel
theorem d1_10 : decode prog_25_method_4_code 10 = .ok (.if_icmp .lt 9, 3) := by decide +kernel
theorem d1_13 : decode prog_25_method_4_code 13 = .ok (.iload_n 0, 1) := by decide +kernel
theorem d1_14 : decode prog_25_method_4_code 14 = .ok (.bipush 122, 2) := by decide +kernel
theorem d1_16 : decode prog_25_method_4_code 16 = .ok (.if_icmp .le 15, 3) := by decide +kernel
theorem d1_19 : decode prog_25_method_4_code 19 = .ok (.iload_n 0, 1) := by decide +kernel
theorem d1_20 : decode prog_25_method_4_code 20 = .ok (.bipush 65, 2) := by decide +kernel
theorem d1_22 : decode prog_25_method_4_code 22 = .ok (.if_icmp .lt 13, 3) := by decide +kernel
theorem d1_25 : decode prog_25_method_4_code 25 = .ok (.iload_n 0, 1) := by decide +kernel
theorem d1_26 : decode prog_25_method_4_code 26 = .ok (.bipush 90, 2) := by decide +kernel
theorem d1_28 : decode prog_25_method_4_code 28 = .ok (.if_icmp .gt 7, 3) := by decide +kernel
theorem d1_31 : decode prog_25_method_4_code 31 = .ok (.iconst 1, 1) := by decide +kernel
theorem d1_32 : decode prog_25_method_4_code 32 = .ok (.goto 4, 3) := by decide +kernel
theorem d1_35 : decode prog_25_method_4_code 35 = .ok (.iconst 0, 1) := by decide +kernel
theorem d1_36 : decode prog_25_method_4_code 36 = .ok (.ireturn, 1) := by decide +kernel
theorem d1_37 : decode prog_25_method_4_code 37 = .ok (.iload_n 0, 1) := by decide +kernel
theorem d1_38 : decode prog_25_method_4_code 38 = .ok (.sipush 192, 3) := by decide +kernel
theorem d1_41 : decode prog_25_method_4_code 41 = .ok (.if_icmp .lt 10, 3) := by decide +kernel
theorem d1_44 : decode prog_25_method_4_code 44 = .ok (.iload_n 0, 1) := by decide +kernel
theorem d1_45 : decode prog_25_method_4_code 45 = .ok (.sipush 214, 3) := by decide +kernel
theorem d1_48 : decode prog_25_method_4_code 48 = .ok (.if_icmp .le 150, 3) := by decide +kernel
theorem d1_51 : decode prog_25_method_4_code 51 = .ok (.iload_n 0, 1) := by decide +kernel
theorem d1_52 : decode prog_25_method_4_code 52 = .ok (.sipush 216, 3) := by decide +kernel
theorem d1_55 : decode prog_25_method_4_code 55 = .ok (.if_icmp .lt 10, 3) := by decide +kernel
theorem d1_58 : decode prog_25_method_4_code 58 = .ok (.iload_n 0, 1) := by decide +kernel
theorem d1_59 : decode prog_25_method_4_code 59 = .ok (.sipush 246, 3) := by decide +kernel
theorem d1_62 : decode prog_25_method_4_code 62 = .ok (.if_icmp .le 136, 3) := by decide +kernel
theorem d1_65 : decode prog_25_method_4_code 65 = .ok (.iload_n 0, 1) := by decide +kernel
theorem d1_66 : decode prog_25_method_4_code 66 = .ok (.sipush 248, 3) := by decide +kernel
theorem d1_69 : decode prog_25_method_4_code 69 = .ok (.if_icmp .lt 10, 3) := by decide +kernel
theorem d1_72 : decode prog_25_method_4_code 72 = .ok (.iload_n 0, 1) := by decide +kernel
theorem d1_73 : decode prog_25_method_4_code 73 = .ok (.sipush 767, 3) := by decide +kernel
theorem d1_76 : decode prog_25_method_4_code 76 = .ok (.if_icmp .le 122, 3) := by decide +kernel
theorem d1_79 : decode prog_25_method_4_code 79 = .ok (.iload_n 0, 1) := by decide +kernel
theorem d1_80 : decode prog_25_method_4_code 80 = .ok (.sipush 880, 3) := by decide +kernel
theorem d1_83 : decode prog_25_method_4_code 83 = .ok (.if_icmp .lt 10, 3) := by decide +kernel
theorem d1_86 : decode prog_25_method_4_code 86 = .ok (.iload_n 0, 1) := by decide +kernel
theorem d1_87 : decode prog_25_method_4_code 87 = .ok (.sipush 893, 3) := by decide +kernel
theorem d1_90 : decode prog_25_method_4_code 90 = .ok (.if_icmp .le 108, 3) := by decide +kernel
theorem d1_93 : decode prog_25_method_4_code 93 = .ok (.iload_n 0, 1) := by decide +kernel
theorem d1_94 : decode prog_25_method_4_code 94 = .ok (.sipush 895, 3) := by decide +kernel
theorem d1_97 : decode prog_25_method_4_code 97 = .ok (.if_icmp .lt 10, 3) := by decide +kernel
theorem d1_100 : decode prog_25_method_4_code 100 = .ok (.iload_n 0, 1) := by decide +kernel
theorem d1_101 : decode prog_25_method_4_code 101 = .ok (.sipush 8191, 3) := by decide +kernel
theorem d1_104 : decode prog_25_method_4_code 104 = .ok (.if_icmp .le 94, 3) := by decide +kernel
theorem d1_107 : decode prog_25_method_4_code 107 = .ok (.iload_n 0, 1) := by decide +kernel
theorem d1_108 : decode prog_25_method_4_code 108 = .ok (.sipush 8204, 3) := by decide +kernel
theorem d1_111 : decode prog_25_method_4_code 111 = .ok (.if_icmp .lt 10, 3) := by decide +kernel
theorem d1_114 : decode prog_25_method_4_code 114 = .ok (.iload_n 0, 1) := by decide +kernel
theorem d1_115 : decode prog_25_method_4_code 115 = .ok (.sipush 8205, 3) := by decide +kernel
theorem d1_118 : decode prog_25_method_4_code 118 = .ok (.if_icmp .le 80, 3) := by decide +kernel
theorem d1_121 : decode prog_25_method_4_code 121 = .ok (.iload_n 0, 1) := by decide +kernel
theorem d1_122 : decode prog_25_method_4_code 122 = .ok (.sipush 8304, 3) := by decide +kernel
theorem d1_125 : decode prog_25_method_4_code 125 = .ok (.if_icmp .lt 10, 3) := by decide +kernel
theorem d1_128 : decode prog_25_method_4_code 128 = .ok (.iload_n 0, 1) := by decide +kernel
theorem d1_129 : decode prog_25_method_4_code 129 = .ok (.sipush 8591, 3) := by decide +kernel
theorem d1_132 : decode prog_25_method_4_code 132 = .ok (.if_icmp .le 66, 3) := by decide +kernel
theorem d1_135 : decode prog_25_method_4_code 135 = .ok (.iload_n 0, 1) := by decide +kernel
theorem d1_136 : decode prog_25_method_4_code 136 = .ok (.sipush 11264, 3) := by decide +kernel
theorem d1_139 : decode prog_25_method_4_code 139 = .ok (.if_icmp .lt 10, 3) := by decide +kernel
theorem d1_142 : decode prog_25_method_4_code 142 = .ok (.iload_n 0, 1) := by decide +kernel
theorem d1_143 : decode prog_25_method_4_code 143 = .ok (.sipush 12271, 3) := by decide +kernel
theorem d1_146 : decode prog_25_method_4_code 146 = .ok (.if_icmp .le 52, 3) := by decide +kernel
theorem d1_149 : decode prog_25_method_4_code 149 = .ok (.iload_n 0, 1) := by decide +kernel
theorem d1_150 : decode prog_25_method_4_code 150 = .ok (.sipush 12289, 3) := by decide +kernel
theorem d1_153 : decode prog_25_method_4_code 153 = .ok (.if_icmp .lt 9, 3) := by decide +kernel
theorem d1_156 : decode prog_25_method_4_code 156 = .ok (.iload_n 0, 1) := by decide +kernel
theorem d1_157 : decode prog_25_method_4_code 157 = .ok (.ldc 80, 2) := by decide +kernel
theorem d1_159 : decode prog_25_method_4_code 159 = .ok (.if_icmp .le 39, 3) := by decide +kernel
theorem d1_162 : decode prog_25_method_4_code 162 = .ok (.iload_n 0, 1) := by decide +kernel
theorem d1_163 : decode prog_25_method_4_code 163 = .ok (.ldc 81, 2) := by decide +kernel
theorem d1_165 : decode prog_25_method_4_code 165 = .ok (.if_icmp .lt 9, 3) := by decide +kernel
theorem d1_168 : decode prog_25_method_4_code 168 = .ok (.iload_n 0, 1) := by decide +kernel
theorem d1_169 : decode prog_25_method_4_code 169 = .ok (.ldc 82, 2) := by decide +kernel
theorem d1_171 : decode prog_25_method_4_code 171 = .ok (.if_icmp .le 27, 3) := by decide +kernel
theorem d1_174 : decode prog_25_method_4_code 174 = .ok (.iload_n 0, 1) := by decide +kernel
theorem d1_175 : decode prog_25_method_4_code 175 = .ok (.ldc 83, 2) := by decide +kernel
theorem d1_177 : decode prog_25_method_4_code 177 = .ok (.if_icmp .lt 9, 3) := by decide +kernel
theorem d1_180 : decode prog_25_method_4_code 180 = .ok (.iload_n 0, 1) := by decide +kernel
theorem d1_181 : decode prog_25_method_4_code 181 = .ok (.ldc 84, 2) := by decide +kernel
theorem d1_183 : decode prog_25_method_4_code 183 = .ok (.if_icmp .le 15, 3) := by decide +kernel
theorem d1_186 : decode prog_25_method_4_code 186 = .ok (.iload_n 0, 1) := by decide +kernel
theorem d1_187 : decode prog_25_method_4_code 187 = .ok (.ldc 85, 2) := by decide +kernel
theorem d1_189 : decode prog_25_method_4_code 189 = .ok (.if_icmp .lt 13, 3) := by decide +kernel
theorem d1_192 : decode prog_25_method_4_code 192 = .ok (.iload_n 0, 1) := by decide +kernel
theorem d1_193 : decode prog_25_method_4_code 193 = .ok (.ldc 86, 2) := by decide +kernel
theorem d1_195 : decode prog_25_method_4_code 195 = .ok (.if_icmp .gt 7, 3) := by decide +kernel
theorem d1_198 : decode prog_25_method_4_code 198 = .ok (.iconst 1, 1) := by decide +kernel
theorem d1_199 : decode prog_25_method_4_code 199 = .ok (.goto 4, 3) := by decide +kernel
theorem d1_202 : decode prog_25_method_4_code 202 = .ok (.iconst 0, 1) := by decide +kernel
theorem d1_203 : decode prog_25_method_4_code 203 = .ok (.ireturn, 1) := by decide +kernel
theorem pn1 : plainFor (⟨"quoth/rdf/BlankNode", "isLetter", "(I)Z"⟩ : MethodName) = true := by decide +kernel
theorem ef1 (p1 : Int32) (m : MethodId) : entryFrame m #[(.int p1)] 1 = mkF m 0 #[.val (.int p1)] [] := by first | (simp [entryFrame, mkF, argsToLocals, Value.category]; done) | rfl
def g1_202 (p1 : Int32) : Int32 := (0 : Int32)
def g1_198 (p1 : Int32) : Int32 := (1 : Int32)
def g1_186 (p1 : Int32) : Int32 := if p1 < (65536 : Int32) then (g1_202 p1) else if (983039 : Int32) < p1 then (g1_202 p1) else (g1_198 p1)
def g1_174 (p1 : Int32) : Int32 := if p1 < (65008 : Int32) then (g1_186 p1) else if (65533 : Int32) < p1 then (g1_186 p1) else (g1_198 p1)
def g1_162 (p1 : Int32) : Int32 := if p1 < (63744 : Int32) then (g1_174 p1) else if (64975 : Int32) < p1 then (g1_174 p1) else (g1_198 p1)
def g1_149 (p1 : Int32) : Int32 := if p1 < (12289 : Int32) then (g1_162 p1) else if (55295 : Int32) < p1 then (g1_162 p1) else (g1_198 p1)
def g1_135 (p1 : Int32) : Int32 := if p1 < (11264 : Int32) then (g1_149 p1) else if (12271 : Int32) < p1 then (g1_149 p1) else (g1_198 p1)
def g1_121 (p1 : Int32) : Int32 := if p1 < (8304 : Int32) then (g1_135 p1) else if (8591 : Int32) < p1 then (g1_135 p1) else (g1_198 p1)
def g1_107 (p1 : Int32) : Int32 := if p1 < (8204 : Int32) then (g1_121 p1) else if (8205 : Int32) < p1 then (g1_121 p1) else (g1_198 p1)
def g1_93 (p1 : Int32) : Int32 := if p1 < (895 : Int32) then (g1_107 p1) else if (8191 : Int32) < p1 then (g1_107 p1) else (g1_198 p1)
def g1_79 (p1 : Int32) : Int32 := if p1 < (880 : Int32) then (g1_93 p1) else if (893 : Int32) < p1 then (g1_93 p1) else (g1_198 p1)
def g1_65 (p1 : Int32) : Int32 := if p1 < (248 : Int32) then (g1_79 p1) else if (767 : Int32) < p1 then (g1_79 p1) else (g1_198 p1)
def g1_51 (p1 : Int32) : Int32 := if p1 < (216 : Int32) then (g1_65 p1) else if (246 : Int32) < p1 then (g1_65 p1) else (g1_198 p1)
def g1_35 (p1 : Int32) : Int32 := (0 : Int32)
def g1_31 (p1 : Int32) : Int32 := (1 : Int32)
def g1_19 (p1 : Int32) : Int32 := if p1 < (65 : Int32) then (g1_35 p1) else if (90 : Int32) < p1 then (g1_35 p1) else (g1_31 p1)
def g1_0 (p1 : Int32) : Int32 := if p1 < (128 : Int32) then if p1 < (97 : Int32) then (g1_19 p1) else if (122 : Int32) < p1 then (g1_19 p1) else (g1_31 p1) else if p1 < (192 : Int32) then (g1_51 p1) else if (214 : Int32) < p1 then (g1_51 p1) else (g1_198 p1)
def f1 (p1 : Int32) : Int32 := g1_0 p1
set_option maxRecDepth 65536 in
set_option maxHeartbeats 40000000 in
theorem rm1 (l : Launch) (Z : State) (a0 : Array Value) (hw : ∀ d ∈ tables_1, d.before a0 Z = true) (ws : List Jvm.Cond) (p1 : Int32) (h0 : Heap) (n0 : Nat) :
    JMet l Z (⟨"quoth/rdf/BlankNode", "isLetter", "(I)Z"⟩ : MethodName) prog_25_method_4_code 1 (some .boolean) ws ({ frames := 0, cells := 0, slots := 0, locals := 0 } : Room) #[(.int p1)] h0 (QP (.int (f1 p1)) h0 n0) := by
  refine Jvm.JW.body #[.val (.int p1)] pn1 (ef1 p1) ?_
  intro p e s m below meth c T0 D A F X0 hx hZ hby hml hown hnm hrt hlk e0
  have B202 : f1 p1 = g1_202 p1 → D (T0.setTop (mkF m 202 #[.val (.int p1)] [])) := by
    intro hq
    refine A (XS.iconst X0.here hx rfl (hb hby d1_202)) ?_
    show D (T0.setTop (mkF m 203 #[.val (.int p1)] [(.int (0 : Int32))]))
    refine F _ (Jvm.JW.ret X0 hlk (v := some (.int (0 : Int32))) (fun h => by rw [hrt] at h; cases h) (fun fs hr => retOut X0 hx hrt rfl (Or.inl ⟨rfl, Or.inr (Or.inl rfl), _, rfl⟩) (hb hby d1_203) hr) rfl ?_ (by decide) (by decide))
    exact ⟨congrArg (fun z => some (Value.int z)) hq.symm, (Fr.nil n0), e0⟩
  have B198 : f1 p1 = g1_198 p1 → D (T0.setTop (mkF m 198 #[.val (.int p1)] [])) := by
    intro hq
    refine A (XS.iconst X0.here hx rfl (hb hby d1_198)) ?_
    show D (T0.setTop (mkF m 199 #[.val (.int p1)] [(.int (1 : Int32))]))
    refine A (XS.goto X0.here hx rfl (pc0 := 199) (pc' := 203) rfl (hb hby d1_199) (by decide) (by decide)) ?_
    show D (T0.setTop (mkF m 203 #[.val (.int p1)] [(.int (1 : Int32))]))
    refine F _ (Jvm.JW.ret X0 hlk (v := some (.int (1 : Int32))) (fun h => by rw [hrt] at h; cases h) (fun fs hr => retOut X0 hx hrt rfl (Or.inl ⟨rfl, Or.inr (Or.inl rfl), _, rfl⟩) (hb hby d1_203) hr) rfl ?_ (by decide) (by decide))
    exact ⟨congrArg (fun z => some (Value.int z)) hq.symm, (Fr.nil n0), e0⟩
  have B186 : f1 p1 = g1_186 p1 → D (T0.setTop (mkF m 186 #[.val (.int p1)] [])) := by
    intro hq
    refine A (XS.iloadN X0.here hx rfl (hb hby d1_186) rfl) ?_
    show D (T0.setTop (mkF m 187 #[.val (.int p1)] [(.int p1)]))
    refine A (X0.ldcInt hx hown (mvT hZ (hw _ (List.mem_of_getElem? (i := 21) rfl))) (g := (mkF m 187 #[.val (.int p1)] [(.int p1)])) rfl (hb hby d1_187) _) ?_
    show D (T0.setTop (mkF m 189 #[.val (.int p1)] [(.int (65536 : Int32)), (.int p1)]))
    by_cases c189_1 : p1 < (65536 : Int32)
    · refine A (XS.icmpYes X0.here hx rfl (pc0 := 189) (pc' := 202) rfl (hb hby d1_189) rfl (tlt c189_1).1 (by decide) (by decide)) ?_
      show D (T0.setTop (mkF m 202 #[.val (.int p1)] []))
      exact B202 (hq.trans (if_pos c189_1))
    · refine A (XS.icmpNo X0.here hx rfl (hb hby d1_189) rfl (flt c189_1).1) ?_
      show D (T0.setTop (mkF m 192 #[.val (.int p1)] []))
      refine A (XS.iloadN X0.here hx rfl (hb hby d1_192) rfl) ?_
      show D (T0.setTop (mkF m 193 #[.val (.int p1)] [(.int p1)]))
      refine A (X0.ldcInt hx hown (mvT hZ (hw _ (List.mem_of_getElem? (i := 26) rfl))) (g := (mkF m 193 #[.val (.int p1)] [(.int p1)])) rfl (hb hby d1_193) _) ?_
      show D (T0.setTop (mkF m 195 #[.val (.int p1)] [(.int (983039 : Int32)), (.int p1)]))
      by_cases c195_2 : (983039 : Int32) < p1
      · refine A (XS.icmpYes X0.here hx rfl (pc0 := 195) (pc' := 202) rfl (hb hby d1_195) rfl (tlt c195_2).2.2.1 (by decide) (by decide)) ?_
        show D (T0.setTop (mkF m 202 #[.val (.int p1)] []))
        exact B202 (hq.trans ((if_neg c189_1).trans (if_pos c195_2)))
      · refine A (XS.icmpNo X0.here hx rfl (hb hby d1_195) rfl (flt c195_2).2.2.1) ?_
        show D (T0.setTop (mkF m 198 #[.val (.int p1)] []))
        exact B198 (hq.trans ((if_neg c189_1).trans (if_neg c195_2)))
  have B174 : f1 p1 = g1_174 p1 → D (T0.setTop (mkF m 174 #[.val (.int p1)] [])) := by
    intro hq
    refine A (XS.iloadN X0.here hx rfl (hb hby d1_174) rfl) ?_
    show D (T0.setTop (mkF m 175 #[.val (.int p1)] [(.int p1)]))
    refine A (X0.ldcInt hx hown (mvT hZ (hw _ (List.mem_of_getElem? (i := 20) rfl))) (g := (mkF m 175 #[.val (.int p1)] [(.int p1)])) rfl (hb hby d1_175) _) ?_
    show D (T0.setTop (mkF m 177 #[.val (.int p1)] [(.int (65008 : Int32)), (.int p1)]))
    by_cases c177_3 : p1 < (65008 : Int32)
    · refine A (XS.icmpYes X0.here hx rfl (pc0 := 177) (pc' := 186) rfl (hb hby d1_177) rfl (tlt c177_3).1 (by decide) (by decide)) ?_
      show D (T0.setTop (mkF m 186 #[.val (.int p1)] []))
      exact B186 (hq.trans (if_pos c177_3))
    · refine A (XS.icmpNo X0.here hx rfl (hb hby d1_177) rfl (flt c177_3).1) ?_
      show D (T0.setTop (mkF m 180 #[.val (.int p1)] []))
      refine A (XS.iloadN X0.here hx rfl (hb hby d1_180) rfl) ?_
      show D (T0.setTop (mkF m 181 #[.val (.int p1)] [(.int p1)]))
      refine A (X0.ldcInt hx hown (mvT hZ (hw _ (List.mem_of_getElem? (i := 25) rfl))) (g := (mkF m 181 #[.val (.int p1)] [(.int p1)])) rfl (hb hby d1_181) _) ?_
      show D (T0.setTop (mkF m 183 #[.val (.int p1)] [(.int (65533 : Int32)), (.int p1)]))
      by_cases c183_4 : (65533 : Int32) < p1
      · refine A (XS.icmpNo X0.here hx rfl (hb hby d1_183) rfl (tlt c183_4).2.2.2) ?_
        show D (T0.setTop (mkF m 186 #[.val (.int p1)] []))
        exact B186 (hq.trans ((if_neg c177_3).trans (if_pos c183_4)))
      · refine A (XS.icmpYes X0.here hx rfl (pc0 := 183) (pc' := 198) rfl (hb hby d1_183) rfl (flt c183_4).2.2.2 (by decide) (by decide)) ?_
        show D (T0.setTop (mkF m 198 #[.val (.int p1)] []))
        exact B198 (hq.trans ((if_neg c177_3).trans (if_neg c183_4)))
  have B162 : f1 p1 = g1_162 p1 → D (T0.setTop (mkF m 162 #[.val (.int p1)] [])) := by
    intro hq
    refine A (XS.iloadN X0.here hx rfl (hb hby d1_162) rfl) ?_
    show D (T0.setTop (mkF m 163 #[.val (.int p1)] [(.int p1)]))
    refine A (X0.ldcInt hx hown (mvT hZ (hw _ (List.mem_of_getElem? (i := 19) rfl))) (g := (mkF m 163 #[.val (.int p1)] [(.int p1)])) rfl (hb hby d1_163) _) ?_
    show D (T0.setTop (mkF m 165 #[.val (.int p1)] [(.int (63744 : Int32)), (.int p1)]))
    by_cases c165_5 : p1 < (63744 : Int32)
    · refine A (XS.icmpYes X0.here hx rfl (pc0 := 165) (pc' := 174) rfl (hb hby d1_165) rfl (tlt c165_5).1 (by decide) (by decide)) ?_
      show D (T0.setTop (mkF m 174 #[.val (.int p1)] []))
      exact B174 (hq.trans (if_pos c165_5))
    · refine A (XS.icmpNo X0.here hx rfl (hb hby d1_165) rfl (flt c165_5).1) ?_
      show D (T0.setTop (mkF m 168 #[.val (.int p1)] []))
      refine A (XS.iloadN X0.here hx rfl (hb hby d1_168) rfl) ?_
      show D (T0.setTop (mkF m 169 #[.val (.int p1)] [(.int p1)]))
      refine A (X0.ldcInt hx hown (mvT hZ (hw _ (List.mem_of_getElem? (i := 24) rfl))) (g := (mkF m 169 #[.val (.int p1)] [(.int p1)])) rfl (hb hby d1_169) _) ?_
      show D (T0.setTop (mkF m 171 #[.val (.int p1)] [(.int (64975 : Int32)), (.int p1)]))
      by_cases c171_6 : (64975 : Int32) < p1
      · refine A (XS.icmpNo X0.here hx rfl (hb hby d1_171) rfl (tlt c171_6).2.2.2) ?_
        show D (T0.setTop (mkF m 174 #[.val (.int p1)] []))
        exact B174 (hq.trans ((if_neg c165_5).trans (if_pos c171_6)))
      · refine A (XS.icmpYes X0.here hx rfl (pc0 := 171) (pc' := 198) rfl (hb hby d1_171) rfl (flt c171_6).2.2.2 (by decide) (by decide)) ?_
        show D (T0.setTop (mkF m 198 #[.val (.int p1)] []))
        exact B198 (hq.trans ((if_neg c165_5).trans (if_neg c171_6)))
  have B149 : f1 p1 = g1_149 p1 → D (T0.setTop (mkF m 149 #[.val (.int p1)] [])) := by
    intro hq
    refine A (XS.iloadN X0.here hx rfl (hb hby d1_149) rfl) ?_
    show D (T0.setTop (mkF m 150 #[.val (.int p1)] [(.int p1)]))
    refine A (XS.sipush X0.here hx rfl (hb hby d1_150)) ?_
    show D (T0.setTop (mkF m 153 #[.val (.int p1)] [(.int (12289 : Int32)), (.int p1)]))
    by_cases c153_7 : p1 < (12289 : Int32)
    · refine A (XS.icmpYes X0.here hx rfl (pc0 := 153) (pc' := 162) rfl (hb hby d1_153) rfl (tlt c153_7).1 (by decide) (by decide)) ?_
      show D (T0.setTop (mkF m 162 #[.val (.int p1)] []))
      exact B162 (hq.trans (if_pos c153_7))
    · refine A (XS.icmpNo X0.here hx rfl (hb hby d1_153) rfl (flt c153_7).1) ?_
      show D (T0.setTop (mkF m 156 #[.val (.int p1)] []))
      refine A (XS.iloadN X0.here hx rfl (hb hby d1_156) rfl) ?_
      show D (T0.setTop (mkF m 157 #[.val (.int p1)] [(.int p1)]))
      refine A (X0.ldcInt hx hown (mvT hZ (hw _ (List.mem_of_getElem? (i := 23) rfl))) (g := (mkF m 157 #[.val (.int p1)] [(.int p1)])) rfl (hb hby d1_157) _) ?_
      show D (T0.setTop (mkF m 159 #[.val (.int p1)] [(.int (55295 : Int32)), (.int p1)]))
      by_cases c159_8 : (55295 : Int32) < p1
      · refine A (XS.icmpNo X0.here hx rfl (hb hby d1_159) rfl (tlt c159_8).2.2.2) ?_
        show D (T0.setTop (mkF m 162 #[.val (.int p1)] []))
        exact B162 (hq.trans ((if_neg c153_7).trans (if_pos c159_8)))
      · refine A (XS.icmpYes X0.here hx rfl (pc0 := 159) (pc' := 198) rfl (hb hby d1_159) rfl (flt c159_8).2.2.2 (by decide) (by decide)) ?_
        show D (T0.setTop (mkF m 198 #[.val (.int p1)] []))
        exact B198 (hq.trans ((if_neg c153_7).trans (if_neg c159_8)))
  have B135 : f1 p1 = g1_135 p1 → D (T0.setTop (mkF m 135 #[.val (.int p1)] [])) := by
    intro hq
    refine A (XS.iloadN X0.here hx rfl (hb hby d1_135) rfl) ?_
    show D (T0.setTop (mkF m 136 #[.val (.int p1)] [(.int p1)]))
    refine A (XS.sipush X0.here hx rfl (hb hby d1_136)) ?_
    show D (T0.setTop (mkF m 139 #[.val (.int p1)] [(.int (11264 : Int32)), (.int p1)]))
    by_cases c139_9 : p1 < (11264 : Int32)
    · refine A (XS.icmpYes X0.here hx rfl (pc0 := 139) (pc' := 149) rfl (hb hby d1_139) rfl (tlt c139_9).1 (by decide) (by decide)) ?_
      show D (T0.setTop (mkF m 149 #[.val (.int p1)] []))
      exact B149 (hq.trans (if_pos c139_9))
    · refine A (XS.icmpNo X0.here hx rfl (hb hby d1_139) rfl (flt c139_9).1) ?_
      show D (T0.setTop (mkF m 142 #[.val (.int p1)] []))
      refine A (XS.iloadN X0.here hx rfl (hb hby d1_142) rfl) ?_
      show D (T0.setTop (mkF m 143 #[.val (.int p1)] [(.int p1)]))
      refine A (XS.sipush X0.here hx rfl (hb hby d1_143)) ?_
      show D (T0.setTop (mkF m 146 #[.val (.int p1)] [(.int (12271 : Int32)), (.int p1)]))
      by_cases c146_10 : (12271 : Int32) < p1
      · refine A (XS.icmpNo X0.here hx rfl (hb hby d1_146) rfl (tlt c146_10).2.2.2) ?_
        show D (T0.setTop (mkF m 149 #[.val (.int p1)] []))
        exact B149 (hq.trans ((if_neg c139_9).trans (if_pos c146_10)))
      · refine A (XS.icmpYes X0.here hx rfl (pc0 := 146) (pc' := 198) rfl (hb hby d1_146) rfl (flt c146_10).2.2.2 (by decide) (by decide)) ?_
        show D (T0.setTop (mkF m 198 #[.val (.int p1)] []))
        exact B198 (hq.trans ((if_neg c139_9).trans (if_neg c146_10)))
  have B121 : f1 p1 = g1_121 p1 → D (T0.setTop (mkF m 121 #[.val (.int p1)] [])) := by
    intro hq
    refine A (XS.iloadN X0.here hx rfl (hb hby d1_121) rfl) ?_
    show D (T0.setTop (mkF m 122 #[.val (.int p1)] [(.int p1)]))
    refine A (XS.sipush X0.here hx rfl (hb hby d1_122)) ?_
    show D (T0.setTop (mkF m 125 #[.val (.int p1)] [(.int (8304 : Int32)), (.int p1)]))
    by_cases c125_11 : p1 < (8304 : Int32)
    · refine A (XS.icmpYes X0.here hx rfl (pc0 := 125) (pc' := 135) rfl (hb hby d1_125) rfl (tlt c125_11).1 (by decide) (by decide)) ?_
      show D (T0.setTop (mkF m 135 #[.val (.int p1)] []))
      exact B135 (hq.trans (if_pos c125_11))
    · refine A (XS.icmpNo X0.here hx rfl (hb hby d1_125) rfl (flt c125_11).1) ?_
      show D (T0.setTop (mkF m 128 #[.val (.int p1)] []))
      refine A (XS.iloadN X0.here hx rfl (hb hby d1_128) rfl) ?_
      show D (T0.setTop (mkF m 129 #[.val (.int p1)] [(.int p1)]))
      refine A (XS.sipush X0.here hx rfl (hb hby d1_129)) ?_
      show D (T0.setTop (mkF m 132 #[.val (.int p1)] [(.int (8591 : Int32)), (.int p1)]))
      by_cases c132_12 : (8591 : Int32) < p1
      · refine A (XS.icmpNo X0.here hx rfl (hb hby d1_132) rfl (tlt c132_12).2.2.2) ?_
        show D (T0.setTop (mkF m 135 #[.val (.int p1)] []))
        exact B135 (hq.trans ((if_neg c125_11).trans (if_pos c132_12)))
      · refine A (XS.icmpYes X0.here hx rfl (pc0 := 132) (pc' := 198) rfl (hb hby d1_132) rfl (flt c132_12).2.2.2 (by decide) (by decide)) ?_
        show D (T0.setTop (mkF m 198 #[.val (.int p1)] []))
        exact B198 (hq.trans ((if_neg c125_11).trans (if_neg c132_12)))
  have B107 : f1 p1 = g1_107 p1 → D (T0.setTop (mkF m 107 #[.val (.int p1)] [])) := by
    intro hq
    refine A (XS.iloadN X0.here hx rfl (hb hby d1_107) rfl) ?_
    show D (T0.setTop (mkF m 108 #[.val (.int p1)] [(.int p1)]))
    refine A (XS.sipush X0.here hx rfl (hb hby d1_108)) ?_
    show D (T0.setTop (mkF m 111 #[.val (.int p1)] [(.int (8204 : Int32)), (.int p1)]))
    by_cases c111_13 : p1 < (8204 : Int32)
    · refine A (XS.icmpYes X0.here hx rfl (pc0 := 111) (pc' := 121) rfl (hb hby d1_111) rfl (tlt c111_13).1 (by decide) (by decide)) ?_
      show D (T0.setTop (mkF m 121 #[.val (.int p1)] []))
      exact B121 (hq.trans (if_pos c111_13))
    · refine A (XS.icmpNo X0.here hx rfl (hb hby d1_111) rfl (flt c111_13).1) ?_
      show D (T0.setTop (mkF m 114 #[.val (.int p1)] []))
      refine A (XS.iloadN X0.here hx rfl (hb hby d1_114) rfl) ?_
      show D (T0.setTop (mkF m 115 #[.val (.int p1)] [(.int p1)]))
      refine A (XS.sipush X0.here hx rfl (hb hby d1_115)) ?_
      show D (T0.setTop (mkF m 118 #[.val (.int p1)] [(.int (8205 : Int32)), (.int p1)]))
      by_cases c118_14 : (8205 : Int32) < p1
      · refine A (XS.icmpNo X0.here hx rfl (hb hby d1_118) rfl (tlt c118_14).2.2.2) ?_
        show D (T0.setTop (mkF m 121 #[.val (.int p1)] []))
        exact B121 (hq.trans ((if_neg c111_13).trans (if_pos c118_14)))
      · refine A (XS.icmpYes X0.here hx rfl (pc0 := 118) (pc' := 198) rfl (hb hby d1_118) rfl (flt c118_14).2.2.2 (by decide) (by decide)) ?_
        show D (T0.setTop (mkF m 198 #[.val (.int p1)] []))
        exact B198 (hq.trans ((if_neg c111_13).trans (if_neg c118_14)))
  have B93 : f1 p1 = g1_93 p1 → D (T0.setTop (mkF m 93 #[.val (.int p1)] [])) := by
    intro hq
    refine A (XS.iloadN X0.here hx rfl (hb hby d1_93) rfl) ?_
    show D (T0.setTop (mkF m 94 #[.val (.int p1)] [(.int p1)]))
    refine A (XS.sipush X0.here hx rfl (hb hby d1_94)) ?_
    show D (T0.setTop (mkF m 97 #[.val (.int p1)] [(.int (895 : Int32)), (.int p1)]))
    by_cases c97_15 : p1 < (895 : Int32)
    · refine A (XS.icmpYes X0.here hx rfl (pc0 := 97) (pc' := 107) rfl (hb hby d1_97) rfl (tlt c97_15).1 (by decide) (by decide)) ?_
      show D (T0.setTop (mkF m 107 #[.val (.int p1)] []))
      exact B107 (hq.trans (if_pos c97_15))
    · refine A (XS.icmpNo X0.here hx rfl (hb hby d1_97) rfl (flt c97_15).1) ?_
      show D (T0.setTop (mkF m 100 #[.val (.int p1)] []))
      refine A (XS.iloadN X0.here hx rfl (hb hby d1_100) rfl) ?_
      show D (T0.setTop (mkF m 101 #[.val (.int p1)] [(.int p1)]))
      refine A (XS.sipush X0.here hx rfl (hb hby d1_101)) ?_
      show D (T0.setTop (mkF m 104 #[.val (.int p1)] [(.int (8191 : Int32)), (.int p1)]))
      by_cases c104_16 : (8191 : Int32) < p1
      · refine A (XS.icmpNo X0.here hx rfl (hb hby d1_104) rfl (tlt c104_16).2.2.2) ?_
        show D (T0.setTop (mkF m 107 #[.val (.int p1)] []))
        exact B107 (hq.trans ((if_neg c97_15).trans (if_pos c104_16)))
      · refine A (XS.icmpYes X0.here hx rfl (pc0 := 104) (pc' := 198) rfl (hb hby d1_104) rfl (flt c104_16).2.2.2 (by decide) (by decide)) ?_
        show D (T0.setTop (mkF m 198 #[.val (.int p1)] []))
        exact B198 (hq.trans ((if_neg c97_15).trans (if_neg c104_16)))
  have B79 : f1 p1 = g1_79 p1 → D (T0.setTop (mkF m 79 #[.val (.int p1)] [])) := by
    intro hq
    refine A (XS.iloadN X0.here hx rfl (hb hby d1_79) rfl) ?_
    show D (T0.setTop (mkF m 80 #[.val (.int p1)] [(.int p1)]))
    refine A (XS.sipush X0.here hx rfl (hb hby d1_80)) ?_
    show D (T0.setTop (mkF m 83 #[.val (.int p1)] [(.int (880 : Int32)), (.int p1)]))
    by_cases c83_17 : p1 < (880 : Int32)
    · refine A (XS.icmpYes X0.here hx rfl (pc0 := 83) (pc' := 93) rfl (hb hby d1_83) rfl (tlt c83_17).1 (by decide) (by decide)) ?_
      show D (T0.setTop (mkF m 93 #[.val (.int p1)] []))
      exact B93 (hq.trans (if_pos c83_17))
    · refine A (XS.icmpNo X0.here hx rfl (hb hby d1_83) rfl (flt c83_17).1) ?_
      show D (T0.setTop (mkF m 86 #[.val (.int p1)] []))
      refine A (XS.iloadN X0.here hx rfl (hb hby d1_86) rfl) ?_
      show D (T0.setTop (mkF m 87 #[.val (.int p1)] [(.int p1)]))
      refine A (XS.sipush X0.here hx rfl (hb hby d1_87)) ?_
      show D (T0.setTop (mkF m 90 #[.val (.int p1)] [(.int (893 : Int32)), (.int p1)]))
      by_cases c90_18 : (893 : Int32) < p1
      · refine A (XS.icmpNo X0.here hx rfl (hb hby d1_90) rfl (tlt c90_18).2.2.2) ?_
        show D (T0.setTop (mkF m 93 #[.val (.int p1)] []))
        exact B93 (hq.trans ((if_neg c83_17).trans (if_pos c90_18)))
      · refine A (XS.icmpYes X0.here hx rfl (pc0 := 90) (pc' := 198) rfl (hb hby d1_90) rfl (flt c90_18).2.2.2 (by decide) (by decide)) ?_
        show D (T0.setTop (mkF m 198 #[.val (.int p1)] []))
        exact B198 (hq.trans ((if_neg c83_17).trans (if_neg c90_18)))
  have B65 : f1 p1 = g1_65 p1 → D (T0.setTop (mkF m 65 #[.val (.int p1)] [])) := by
    intro hq
    refine A (XS.iloadN X0.here hx rfl (hb hby d1_65) rfl) ?_
    show D (T0.setTop (mkF m 66 #[.val (.int p1)] [(.int p1)]))
    refine A (XS.sipush X0.here hx rfl (hb hby d1_66)) ?_
    show D (T0.setTop (mkF m 69 #[.val (.int p1)] [(.int (248 : Int32)), (.int p1)]))
    by_cases c69_19 : p1 < (248 : Int32)
    · refine A (XS.icmpYes X0.here hx rfl (pc0 := 69) (pc' := 79) rfl (hb hby d1_69) rfl (tlt c69_19).1 (by decide) (by decide)) ?_
      show D (T0.setTop (mkF m 79 #[.val (.int p1)] []))
      exact B79 (hq.trans (if_pos c69_19))
    · refine A (XS.icmpNo X0.here hx rfl (hb hby d1_69) rfl (flt c69_19).1) ?_
      show D (T0.setTop (mkF m 72 #[.val (.int p1)] []))
      refine A (XS.iloadN X0.here hx rfl (hb hby d1_72) rfl) ?_
      show D (T0.setTop (mkF m 73 #[.val (.int p1)] [(.int p1)]))
      refine A (XS.sipush X0.here hx rfl (hb hby d1_73)) ?_
      show D (T0.setTop (mkF m 76 #[.val (.int p1)] [(.int (767 : Int32)), (.int p1)]))
      by_cases c76_20 : (767 : Int32) < p1
      · refine A (XS.icmpNo X0.here hx rfl (hb hby d1_76) rfl (tlt c76_20).2.2.2) ?_
        show D (T0.setTop (mkF m 79 #[.val (.int p1)] []))
        exact B79 (hq.trans ((if_neg c69_19).trans (if_pos c76_20)))
      · refine A (XS.icmpYes X0.here hx rfl (pc0 := 76) (pc' := 198) rfl (hb hby d1_76) rfl (flt c76_20).2.2.2 (by decide) (by decide)) ?_
        show D (T0.setTop (mkF m 198 #[.val (.int p1)] []))
        exact B198 (hq.trans ((if_neg c69_19).trans (if_neg c76_20)))
  have B51 : f1 p1 = g1_51 p1 → D (T0.setTop (mkF m 51 #[.val (.int p1)] [])) := by
    intro hq
    refine A (XS.iloadN X0.here hx rfl (hb hby d1_51) rfl) ?_
    show D (T0.setTop (mkF m 52 #[.val (.int p1)] [(.int p1)]))
    refine A (XS.sipush X0.here hx rfl (hb hby d1_52)) ?_
    show D (T0.setTop (mkF m 55 #[.val (.int p1)] [(.int (216 : Int32)), (.int p1)]))
    by_cases c55_21 : p1 < (216 : Int32)
    · refine A (XS.icmpYes X0.here hx rfl (pc0 := 55) (pc' := 65) rfl (hb hby d1_55) rfl (tlt c55_21).1 (by decide) (by decide)) ?_
      show D (T0.setTop (mkF m 65 #[.val (.int p1)] []))
      exact B65 (hq.trans (if_pos c55_21))
    · refine A (XS.icmpNo X0.here hx rfl (hb hby d1_55) rfl (flt c55_21).1) ?_
      show D (T0.setTop (mkF m 58 #[.val (.int p1)] []))
      refine A (XS.iloadN X0.here hx rfl (hb hby d1_58) rfl) ?_
      show D (T0.setTop (mkF m 59 #[.val (.int p1)] [(.int p1)]))
      refine A (XS.sipush X0.here hx rfl (hb hby d1_59)) ?_
      show D (T0.setTop (mkF m 62 #[.val (.int p1)] [(.int (246 : Int32)), (.int p1)]))
      by_cases c62_22 : (246 : Int32) < p1
      · refine A (XS.icmpNo X0.here hx rfl (hb hby d1_62) rfl (tlt c62_22).2.2.2) ?_
        show D (T0.setTop (mkF m 65 #[.val (.int p1)] []))
        exact B65 (hq.trans ((if_neg c55_21).trans (if_pos c62_22)))
      · refine A (XS.icmpYes X0.here hx rfl (pc0 := 62) (pc' := 198) rfl (hb hby d1_62) rfl (flt c62_22).2.2.2 (by decide) (by decide)) ?_
        show D (T0.setTop (mkF m 198 #[.val (.int p1)] []))
        exact B198 (hq.trans ((if_neg c55_21).trans (if_neg c62_22)))
  have B35 : f1 p1 = g1_35 p1 → D (T0.setTop (mkF m 35 #[.val (.int p1)] [])) := by
    intro hq
    refine A (XS.iconst X0.here hx rfl (hb hby d1_35)) ?_
    show D (T0.setTop (mkF m 36 #[.val (.int p1)] [(.int (0 : Int32))]))
    refine F _ (Jvm.JW.ret X0 hlk (v := some (.int (0 : Int32))) (fun h => by rw [hrt] at h; cases h) (fun fs hr => retOut X0 hx hrt rfl (Or.inl ⟨rfl, Or.inr (Or.inl rfl), _, rfl⟩) (hb hby d1_36) hr) rfl ?_ (by decide) (by decide))
    exact ⟨congrArg (fun z => some (Value.int z)) hq.symm, (Fr.nil n0), e0⟩
  have B31 : f1 p1 = g1_31 p1 → D (T0.setTop (mkF m 31 #[.val (.int p1)] [])) := by
    intro hq
    refine A (XS.iconst X0.here hx rfl (hb hby d1_31)) ?_
    show D (T0.setTop (mkF m 32 #[.val (.int p1)] [(.int (1 : Int32))]))
    refine A (XS.goto X0.here hx rfl (pc0 := 32) (pc' := 36) rfl (hb hby d1_32) (by decide) (by decide)) ?_
    show D (T0.setTop (mkF m 36 #[.val (.int p1)] [(.int (1 : Int32))]))
    refine F _ (Jvm.JW.ret X0 hlk (v := some (.int (1 : Int32))) (fun h => by rw [hrt] at h; cases h) (fun fs hr => retOut X0 hx hrt rfl (Or.inl ⟨rfl, Or.inr (Or.inl rfl), _, rfl⟩) (hb hby d1_36) hr) rfl ?_ (by decide) (by decide))
    exact ⟨congrArg (fun z => some (Value.int z)) hq.symm, (Fr.nil n0), e0⟩
  have B19 : f1 p1 = g1_19 p1 → D (T0.setTop (mkF m 19 #[.val (.int p1)] [])) := by
    intro hq
    refine A (XS.iloadN X0.here hx rfl (hb hby d1_19) rfl) ?_
    show D (T0.setTop (mkF m 20 #[.val (.int p1)] [(.int p1)]))
    refine A (XS.bipush X0.here hx rfl (hb hby d1_20)) ?_
    show D (T0.setTop (mkF m 22 #[.val (.int p1)] [(.int (65 : Int32)), (.int p1)]))
    by_cases c22_23 : p1 < (65 : Int32)
    · refine A (XS.icmpYes X0.here hx rfl (pc0 := 22) (pc' := 35) rfl (hb hby d1_22) rfl (tlt c22_23).1 (by decide) (by decide)) ?_
      show D (T0.setTop (mkF m 35 #[.val (.int p1)] []))
      exact B35 (hq.trans (if_pos c22_23))
    · refine A (XS.icmpNo X0.here hx rfl (hb hby d1_22) rfl (flt c22_23).1) ?_
      show D (T0.setTop (mkF m 25 #[.val (.int p1)] []))
      refine A (XS.iloadN X0.here hx rfl (hb hby d1_25) rfl) ?_
      show D (T0.setTop (mkF m 26 #[.val (.int p1)] [(.int p1)]))
      refine A (XS.bipush X0.here hx rfl (hb hby d1_26)) ?_
      show D (T0.setTop (mkF m 28 #[.val (.int p1)] [(.int (90 : Int32)), (.int p1)]))
      by_cases c28_24 : (90 : Int32) < p1
      · refine A (XS.icmpYes X0.here hx rfl (pc0 := 28) (pc' := 35) rfl (hb hby d1_28) rfl (tlt c28_24).2.2.1 (by decide) (by decide)) ?_
        show D (T0.setTop (mkF m 35 #[.val (.int p1)] []))
        exact B35 (hq.trans ((if_neg c22_23).trans (if_pos c28_24)))
      · refine A (XS.icmpNo X0.here hx rfl (hb hby d1_28) rfl (flt c28_24).2.2.1) ?_
        show D (T0.setTop (mkF m 31 #[.val (.int p1)] []))
        exact B31 (hq.trans ((if_neg c22_23).trans (if_neg c28_24)))
  have B0 : f1 p1 = g1_0 p1 → D (T0.setTop (mkF m 0 #[.val (.int p1)] [])) := by
    intro hq
    refine A (XS.iloadN X0.here hx rfl (hb hby d1_0) rfl) ?_
    show D (T0.setTop (mkF m 1 #[.val (.int p1)] [(.int p1)]))
    refine A (XS.sipush X0.here hx rfl (hb hby d1_1)) ?_
    show D (T0.setTop (mkF m 4 #[.val (.int p1)] [(.int (128 : Int32)), (.int p1)]))
    by_cases c4_25 : p1 < (128 : Int32)
    · refine A (XS.icmpNo X0.here hx rfl (hb hby d1_4) rfl (tlt c4_25).2.1) ?_
      show D (T0.setTop (mkF m 7 #[.val (.int p1)] []))
      refine A (XS.iloadN X0.here hx rfl (hb hby d1_7) rfl) ?_
      show D (T0.setTop (mkF m 8 #[.val (.int p1)] [(.int p1)]))
      refine A (XS.bipush X0.here hx rfl (hb hby d1_8)) ?_
      show D (T0.setTop (mkF m 10 #[.val (.int p1)] [(.int (97 : Int32)), (.int p1)]))
      by_cases c10_26 : p1 < (97 : Int32)
      · refine A (XS.icmpYes X0.here hx rfl (pc0 := 10) (pc' := 19) rfl (hb hby d1_10) rfl (tlt c10_26).1 (by decide) (by decide)) ?_
        show D (T0.setTop (mkF m 19 #[.val (.int p1)] []))
        exact B19 (hq.trans ((if_pos c4_25).trans (if_pos c10_26)))
      · refine A (XS.icmpNo X0.here hx rfl (hb hby d1_10) rfl (flt c10_26).1) ?_
        show D (T0.setTop (mkF m 13 #[.val (.int p1)] []))
        refine A (XS.iloadN X0.here hx rfl (hb hby d1_13) rfl) ?_
        show D (T0.setTop (mkF m 14 #[.val (.int p1)] [(.int p1)]))
        refine A (XS.bipush X0.here hx rfl (hb hby d1_14)) ?_
        show D (T0.setTop (mkF m 16 #[.val (.int p1)] [(.int (122 : Int32)), (.int p1)]))
        by_cases c16_27 : (122 : Int32) < p1
        · refine A (XS.icmpNo X0.here hx rfl (hb hby d1_16) rfl (tlt c16_27).2.2.2) ?_
          show D (T0.setTop (mkF m 19 #[.val (.int p1)] []))
          exact B19 (hq.trans (((if_pos c4_25).trans (if_neg c10_26)).trans (if_pos c16_27)))
        · refine A (XS.icmpYes X0.here hx rfl (pc0 := 16) (pc' := 31) rfl (hb hby d1_16) rfl (flt c16_27).2.2.2 (by decide) (by decide)) ?_
          show D (T0.setTop (mkF m 31 #[.val (.int p1)] []))
          exact B31 (hq.trans (((if_pos c4_25).trans (if_neg c10_26)).trans (if_neg c16_27)))
    · refine A (XS.icmpYes X0.here hx rfl (pc0 := 4) (pc' := 37) rfl (hb hby d1_4) rfl (flt c4_25).2.1 (by decide) (by decide)) ?_
      show D (T0.setTop (mkF m 37 #[.val (.int p1)] []))
      refine A (XS.iloadN X0.here hx rfl (hb hby d1_37) rfl) ?_
      show D (T0.setTop (mkF m 38 #[.val (.int p1)] [(.int p1)]))
      refine A (XS.sipush X0.here hx rfl (hb hby d1_38)) ?_
      show D (T0.setTop (mkF m 41 #[.val (.int p1)] [(.int (192 : Int32)), (.int p1)]))
      by_cases c41_28 : p1 < (192 : Int32)
      · refine A (XS.icmpYes X0.here hx rfl (pc0 := 41) (pc' := 51) rfl (hb hby d1_41) rfl (tlt c41_28).1 (by decide) (by decide)) ?_
        show D (T0.setTop (mkF m 51 #[.val (.int p1)] []))
        exact B51 (hq.trans ((if_neg c4_25).trans (if_pos c41_28)))
      · refine A (XS.icmpNo X0.here hx rfl (hb hby d1_41) rfl (flt c41_28).1) ?_
        show D (T0.setTop (mkF m 44 #[.val (.int p1)] []))
        refine A (XS.iloadN X0.here hx rfl (hb hby d1_44) rfl) ?_
        show D (T0.setTop (mkF m 45 #[.val (.int p1)] [(.int p1)]))
        refine A (XS.sipush X0.here hx rfl (hb hby d1_45)) ?_
        show D (T0.setTop (mkF m 48 #[.val (.int p1)] [(.int (214 : Int32)), (.int p1)]))
        by_cases c48_29 : (214 : Int32) < p1
        · refine A (XS.icmpNo X0.here hx rfl (hb hby d1_48) rfl (tlt c48_29).2.2.2) ?_
          show D (T0.setTop (mkF m 51 #[.val (.int p1)] []))
          exact B51 (hq.trans (((if_neg c4_25).trans (if_neg c41_28)).trans (if_pos c48_29)))
        · refine A (XS.icmpYes X0.here hx rfl (pc0 := 48) (pc' := 198) rfl (hb hby d1_48) rfl (flt c48_29).2.2.2 (by decide) (by decide)) ?_
          show D (T0.setTop (mkF m 198 #[.val (.int p1)] []))
          exact B198 (hq.trans (((if_neg c4_25).trans (if_neg c41_28)).trans (if_neg c48_29)))
  exact B0 rfl
theorem s1_202 (p1 : Int32) : g1_202 p1 = if (False) then 1 else 0 := by
  have r1 := p1.le_toInt; have r2 := p1.toInt_lt
  unfold g1_202
  repeat' split
  all_goals first | rfl | (exfalso; omega)
theorem s1_198 (p1 : Int32) : g1_198 p1 = if ((-2147483648 ≤ p1.toInt ∧ p1.toInt ≤ 2147483647)) then 1 else 0 := by
  have r1 := p1.le_toInt; have r2 := p1.toInt_lt
  unfold g1_198
  repeat' split
  all_goals first | rfl | (exfalso; omega)
theorem s1_186 (p1 : Int32) : g1_186 p1 = if ((65536 ≤ p1.toInt ∧ p1.toInt ≤ 983039)) then 1 else 0 := by
  have r1 := p1.le_toInt; have r2 := p1.toInt_lt
  unfold g1_186
  simp only [s1_198, s1_202]
  simp only [Int32.lt_iff_toInt_lt, ← Int32.toInt_inj, show (65536 : Int32).toInt = 65536 from rfl, show (983039 : Int32).toInt = 983039 from rfl]
  repeat' split
  all_goals first | rfl | (exfalso; omega)
theorem s1_174 (p1 : Int32) : g1_174 p1 = if ((65008 ≤ p1.toInt ∧ p1.toInt ≤ 65533) ∨ (65536 ≤ p1.toInt ∧ p1.toInt ≤ 983039)) then 1 else 0 := by
  have r1 := p1.le_toInt; have r2 := p1.toInt_lt
  unfold g1_174
  simp only [s1_186, s1_198]
  simp only [Int32.lt_iff_toInt_lt, ← Int32.toInt_inj, show (65008 : Int32).toInt = 65008 from rfl, show (65533 : Int32).toInt = 65533 from rfl]
  repeat' split
  all_goals first | rfl | (exfalso; omega)
theorem s1_162 (p1 : Int32) : g1_162 p1 = if ((63744 ≤ p1.toInt ∧ p1.toInt ≤ 64975) ∨ (65008 ≤ p1.toInt ∧ p1.toInt ≤ 65533) ∨ (65536 ≤ p1.toInt ∧ p1.toInt ≤ 983039)) then 1 else 0 := by
  have r1 := p1.le_toInt; have r2 := p1.toInt_lt
  unfold g1_162
  simp only [s1_174, s1_198]
  simp only [Int32.lt_iff_toInt_lt, ← Int32.toInt_inj, show (63744 : Int32).toInt = 63744 from rfl, show (64975 : Int32).toInt = 64975 from rfl]
  repeat' split
  all_goals first | rfl | (exfalso; omega)
theorem s1_149 (p1 : Int32) : g1_149 p1 = if ((12289 ≤ p1.toInt ∧ p1.toInt ≤ 55295) ∨ (63744 ≤ p1.toInt ∧ p1.toInt ≤ 64975) ∨ (65008 ≤ p1.toInt ∧ p1.toInt ≤ 65533) ∨ (65536 ≤ p1.toInt ∧ p1.toInt ≤ 983039)) then 1 else 0 := by
  have r1 := p1.le_toInt; have r2 := p1.toInt_lt
  unfold g1_149
  simp only [s1_162, s1_198]
  simp only [Int32.lt_iff_toInt_lt, ← Int32.toInt_inj, show (12289 : Int32).toInt = 12289 from rfl, show (55295 : Int32).toInt = 55295 from rfl]
  repeat' split
  all_goals first | rfl | (exfalso; omega)
theorem s1_135 (p1 : Int32) : g1_135 p1 = if ((11264 ≤ p1.toInt ∧ p1.toInt ≤ 12271) ∨ (12289 ≤ p1.toInt ∧ p1.toInt ≤ 55295) ∨ (63744 ≤ p1.toInt ∧ p1.toInt ≤ 64975) ∨ (65008 ≤ p1.toInt ∧ p1.toInt ≤ 65533) ∨ (65536 ≤ p1.toInt ∧ p1.toInt ≤ 983039)) then 1 else 0 := by
  have r1 := p1.le_toInt; have r2 := p1.toInt_lt
  unfold g1_135
  simp only [s1_149, s1_198]
  simp only [Int32.lt_iff_toInt_lt, ← Int32.toInt_inj, show (11264 : Int32).toInt = 11264 from rfl, show (12271 : Int32).toInt = 12271 from rfl]
  repeat' split
  all_goals first | rfl | (exfalso; omega)
theorem s1_121 (p1 : Int32) : g1_121 p1 = if ((8304 ≤ p1.toInt ∧ p1.toInt ≤ 8591) ∨ (11264 ≤ p1.toInt ∧ p1.toInt ≤ 12271) ∨ (12289 ≤ p1.toInt ∧ p1.toInt ≤ 55295) ∨ (63744 ≤ p1.toInt ∧ p1.toInt ≤ 64975) ∨ (65008 ≤ p1.toInt ∧ p1.toInt ≤ 65533) ∨ (65536 ≤ p1.toInt ∧ p1.toInt ≤ 983039)) then 1 else 0 := by
  have r1 := p1.le_toInt; have r2 := p1.toInt_lt
  unfold g1_121
  simp only [s1_135, s1_198]
  simp only [Int32.lt_iff_toInt_lt, ← Int32.toInt_inj, show (8304 : Int32).toInt = 8304 from rfl, show (8591 : Int32).toInt = 8591 from rfl]
  repeat' split
  all_goals first | rfl | (exfalso; omega)
theorem s1_107 (p1 : Int32) : g1_107 p1 = if ((8204 ≤ p1.toInt ∧ p1.toInt ≤ 8205) ∨ (8304 ≤ p1.toInt ∧ p1.toInt ≤ 8591) ∨ (11264 ≤ p1.toInt ∧ p1.toInt ≤ 12271) ∨ (12289 ≤ p1.toInt ∧ p1.toInt ≤ 55295) ∨ (63744 ≤ p1.toInt ∧ p1.toInt ≤ 64975) ∨ (65008 ≤ p1.toInt ∧ p1.toInt ≤ 65533) ∨ (65536 ≤ p1.toInt ∧ p1.toInt ≤ 983039)) then 1 else 0 := by
  have r1 := p1.le_toInt; have r2 := p1.toInt_lt
  unfold g1_107
  simp only [s1_121, s1_198]
  simp only [Int32.lt_iff_toInt_lt, ← Int32.toInt_inj, show (8204 : Int32).toInt = 8204 from rfl, show (8205 : Int32).toInt = 8205 from rfl]
  repeat' split
  all_goals first | rfl | (exfalso; omega)
theorem s1_93 (p1 : Int32) : g1_93 p1 = if ((895 ≤ p1.toInt ∧ p1.toInt ≤ 8191) ∨ (8204 ≤ p1.toInt ∧ p1.toInt ≤ 8205) ∨ (8304 ≤ p1.toInt ∧ p1.toInt ≤ 8591) ∨ (11264 ≤ p1.toInt ∧ p1.toInt ≤ 12271) ∨ (12289 ≤ p1.toInt ∧ p1.toInt ≤ 55295) ∨ (63744 ≤ p1.toInt ∧ p1.toInt ≤ 64975) ∨ (65008 ≤ p1.toInt ∧ p1.toInt ≤ 65533) ∨ (65536 ≤ p1.toInt ∧ p1.toInt ≤ 983039)) then 1 else 0 := by
  have r1 := p1.le_toInt; have r2 := p1.toInt_lt
  unfold g1_93
  simp only [s1_107, s1_198]
  simp only [Int32.lt_iff_toInt_lt, ← Int32.toInt_inj, show (895 : Int32).toInt = 895 from rfl, show (8191 : Int32).toInt = 8191 from rfl]
  repeat' split
  all_goals first | rfl | (exfalso; omega)
theorem s1_79 (p1 : Int32) : g1_79 p1 = if ((880 ≤ p1.toInt ∧ p1.toInt ≤ 893) ∨ (895 ≤ p1.toInt ∧ p1.toInt ≤ 8191) ∨ (8204 ≤ p1.toInt ∧ p1.toInt ≤ 8205) ∨ (8304 ≤ p1.toInt ∧ p1.toInt ≤ 8591) ∨ (11264 ≤ p1.toInt ∧ p1.toInt ≤ 12271) ∨ (12289 ≤ p1.toInt ∧ p1.toInt ≤ 55295) ∨ (63744 ≤ p1.toInt ∧ p1.toInt ≤ 64975) ∨ (65008 ≤ p1.toInt ∧ p1.toInt ≤ 65533) ∨ (65536 ≤ p1.toInt ∧ p1.toInt ≤ 983039)) then 1 else 0 := by
  have r1 := p1.le_toInt; have r2 := p1.toInt_lt
  unfold g1_79
  simp only [s1_93, s1_198]
  simp only [Int32.lt_iff_toInt_lt, ← Int32.toInt_inj, show (880 : Int32).toInt = 880 from rfl, show (893 : Int32).toInt = 893 from rfl]
  repeat' split
  all_goals first | rfl | (exfalso; omega)
theorem s1_65 (p1 : Int32) : g1_65 p1 = if ((248 ≤ p1.toInt ∧ p1.toInt ≤ 767) ∨ (880 ≤ p1.toInt ∧ p1.toInt ≤ 893) ∨ (895 ≤ p1.toInt ∧ p1.toInt ≤ 8191) ∨ (8204 ≤ p1.toInt ∧ p1.toInt ≤ 8205) ∨ (8304 ≤ p1.toInt ∧ p1.toInt ≤ 8591) ∨ (11264 ≤ p1.toInt ∧ p1.toInt ≤ 12271) ∨ (12289 ≤ p1.toInt ∧ p1.toInt ≤ 55295) ∨ (63744 ≤ p1.toInt ∧ p1.toInt ≤ 64975) ∨ (65008 ≤ p1.toInt ∧ p1.toInt ≤ 65533) ∨ (65536 ≤ p1.toInt ∧ p1.toInt ≤ 983039)) then 1 else 0 := by
  have r1 := p1.le_toInt; have r2 := p1.toInt_lt
  unfold g1_65
  simp only [s1_79, s1_198]
  simp only [Int32.lt_iff_toInt_lt, ← Int32.toInt_inj, show (248 : Int32).toInt = 248 from rfl, show (767 : Int32).toInt = 767 from rfl]
  repeat' split
  all_goals first | rfl | (exfalso; omega)
theorem s1_51 (p1 : Int32) : g1_51 p1 = if ((216 ≤ p1.toInt ∧ p1.toInt ≤ 246) ∨ (248 ≤ p1.toInt ∧ p1.toInt ≤ 767) ∨ (880 ≤ p1.toInt ∧ p1.toInt ≤ 893) ∨ (895 ≤ p1.toInt ∧ p1.toInt ≤ 8191) ∨ (8204 ≤ p1.toInt ∧ p1.toInt ≤ 8205) ∨ (8304 ≤ p1.toInt ∧ p1.toInt ≤ 8591) ∨ (11264 ≤ p1.toInt ∧ p1.toInt ≤ 12271) ∨ (12289 ≤ p1.toInt ∧ p1.toInt ≤ 55295) ∨ (63744 ≤ p1.toInt ∧ p1.toInt ≤ 64975) ∨ (65008 ≤ p1.toInt ∧ p1.toInt ≤ 65533) ∨ (65536 ≤ p1.toInt ∧ p1.toInt ≤ 983039)) then 1 else 0 := by
  have r1 := p1.le_toInt; have r2 := p1.toInt_lt
  unfold g1_51
  simp only [s1_65, s1_198]
  simp only [Int32.lt_iff_toInt_lt, ← Int32.toInt_inj, show (216 : Int32).toInt = 216 from rfl, show (246 : Int32).toInt = 246 from rfl]
  repeat' split
  all_goals first | rfl | (exfalso; omega)
theorem s1_35 (p1 : Int32) : g1_35 p1 = if (False) then 1 else 0 := by
  have r1 := p1.le_toInt; have r2 := p1.toInt_lt
  unfold g1_35
  repeat' split
  all_goals first | rfl | (exfalso; omega)
theorem s1_31 (p1 : Int32) : g1_31 p1 = if ((-2147483648 ≤ p1.toInt ∧ p1.toInt ≤ 2147483647)) then 1 else 0 := by
  have r1 := p1.le_toInt; have r2 := p1.toInt_lt
  unfold g1_31
  repeat' split
  all_goals first | rfl | (exfalso; omega)
theorem s1_19 (p1 : Int32) : g1_19 p1 = if ((65 ≤ p1.toInt ∧ p1.toInt ≤ 90)) then 1 else 0 := by
  have r1 := p1.le_toInt; have r2 := p1.toInt_lt
  unfold g1_19
  simp only [s1_31, s1_35]
  simp only [Int32.lt_iff_toInt_lt, ← Int32.toInt_inj, show (65 : Int32).toInt = 65 from rfl, show (90 : Int32).toInt = 90 from rfl]
  repeat' split
  all_goals first | rfl | (exfalso; omega)
theorem s1_0 (p1 : Int32) : g1_0 p1 = if ((65 ≤ p1.toInt ∧ p1.toInt ≤ 90) ∨ (97 ≤ p1.toInt ∧ p1.toInt ≤ 122) ∨ (192 ≤ p1.toInt ∧ p1.toInt ≤ 214) ∨ (216 ≤ p1.toInt ∧ p1.toInt ≤ 246) ∨ (248 ≤ p1.toInt ∧ p1.toInt ≤ 767) ∨ (880 ≤ p1.toInt ∧ p1.toInt ≤ 893) ∨ (895 ≤ p1.toInt ∧ p1.toInt ≤ 8191) ∨ (8204 ≤ p1.toInt ∧ p1.toInt ≤ 8205) ∨ (8304 ≤ p1.toInt ∧ p1.toInt ≤ 8591) ∨ (11264 ≤ p1.toInt ∧ p1.toInt ≤ 12271) ∨ (12289 ≤ p1.toInt ∧ p1.toInt ≤ 55295) ∨ (63744 ≤ p1.toInt ∧ p1.toInt ≤ 64975) ∨ (65008 ≤ p1.toInt ∧ p1.toInt ≤ 65533) ∨ (65536 ≤ p1.toInt ∧ p1.toInt ≤ 983039)) then 1 else 0 := by
  have r1 := p1.le_toInt; have r2 := p1.toInt_lt
  unfold g1_0
  simp only [s1_19, s1_31, s1_51, s1_198]
  simp only [Int32.lt_iff_toInt_lt, ← Int32.toInt_inj, show (97 : Int32).toInt = 97 from rfl, show (122 : Int32).toInt = 122 from rfl, show (128 : Int32).toInt = 128 from rfl, show (192 : Int32).toInt = 192 from rfl, show (214 : Int32).toInt = 214 from rfl]
  repeat' split
  all_goals first | rfl | (exfalso; omega)
theorem d2_0 : decode method_3_code 0 = .ok (.iload_n 0, 1) := by decide +kernel
theorem d2_1 : decode method_3_code 1 = .ok (.bipush 65, 2) := by decide +kernel
theorem d2_3 : decode method_3_code 3 = .ok (.if_icmp .lt 11, 3) := by decide +kernel
theorem d2_6 : decode method_3_code 6 = .ok (.iload_n 0, 1) := by decide +kernel
theorem d2_7 : decode method_3_code 7 = .ok (.bipush 90, 2) := by decide +kernel
theorem d2_9 : decode method_3_code 9 = .ok (.if_icmp .gt 5, 3) := by decide +kernel
theorem d2_12 : decode method_3_code 12 = .ok (.iconst 1, 1) := by decide +kernel
theorem d2_13 : decode method_3_code 13 = .ok (.ireturn, 1) := by decide +kernel
theorem d2_14 : decode method_3_code 14 = .ok (.iload_n 0, 1) := by decide +kernel
theorem d2_15 : decode method_3_code 15 = .ok (.bipush 97, 2) := by decide +kernel
theorem d2_17 : decode method_3_code 17 = .ok (.if_icmp .lt 11, 3) := by decide +kernel
theorem d2_20 : decode method_3_code 20 = .ok (.iload_n 0, 1) := by decide +kernel
theorem d2_21 : decode method_3_code 21 = .ok (.bipush 122, 2) := by decide +kernel
theorem d2_23 : decode method_3_code 23 = .ok (.if_icmp .gt 5, 3) := by decide +kernel
theorem d2_26 : decode method_3_code 26 = .ok (.iconst 1, 1) := by decide +kernel
theorem d2_27 : decode method_3_code 27 = .ok (.ireturn, 1) := by decide +kernel
theorem d2_28 : decode method_3_code 28 = .ok (.iload_n 0, 1) := by decide +kernel
theorem d2_29 : decode method_3_code 29 = .ok (.sipush 192, 3) := by decide +kernel
theorem d2_32 : decode method_3_code 32 = .ok (.if_icmp .lt 9, 3) := by decide +kernel
theorem d2_35 : decode method_3_code 35 = .ok (.iload_n 0, 1) := by decide +kernel
theorem d2_36 : decode method_3_code 36 = .ok (.ldc 30, 2) := by decide +kernel
theorem d2_38 : decode method_3_code 38 = .ok (.if_icmp .le 5, 3) := by decide +kernel
theorem d2_41 : decode method_3_code 41 = .ok (.iconst 0, 1) := by decide +kernel
theorem d2_42 : decode method_3_code 42 = .ok (.ireturn, 1) := by decide +kernel
theorem d2_43 : decode method_3_code 43 = .ok (.iload_n 0, 1) := by decide +kernel
theorem d2_44 : decode method_3_code 44 = .ok (.sipush 215, 3) := by decide +kernel
theorem d2_47 : decode method_3_code 47 = .ok (.if_icmp .eq 17, 3) := by decide +kernel
theorem d2_50 : decode method_3_code 50 = .ok (.iload_n 0, 1) := by decide +kernel
theorem d2_51 : decode method_3_code 51 = .ok (.sipush 247, 3) := by decide +kernel
theorem d2_54 : decode method_3_code 54 = .ok (.if_icmp .eq 10, 3) := by decide +kernel
theorem d2_57 : decode method_3_code 57 = .ok (.iload_n 0, 1) := by decide +kernel
theorem d2_58 : decode method_3_code 58 = .ok (.sipush 894, 3) := by decide +kernel
theorem d2_61 : decode method_3_code 61 = .ok (.if_icmp .ne 5, 3) := by decide +kernel
theorem d2_64 : decode method_3_code 64 = .ok (.iconst 0, 1) := by decide +kernel
theorem d2_65 : decode method_3_code 65 = .ok (.ireturn, 1) := by decide +kernel
theorem d2_66 : decode method_3_code 66 = .ok (.iload_n 0, 1) := by decide +kernel
theorem d2_67 : decode method_3_code 67 = .ok (.sipush 768, 3) := by decide +kernel
theorem d2_70 : decode method_3_code 70 = .ok (.if_icmp .lt 12, 3) := by decide +kernel
theorem d2_73 : decode method_3_code 73 = .ok (.iload_n 0, 1) := by decide +kernel
theorem d2_74 : decode method_3_code 74 = .ok (.sipush 879, 3) := by decide +kernel
theorem d2_77 : decode method_3_code 77 = .ok (.if_icmp .gt 5, 3) := by decide +kernel
theorem d2_80 : decode method_3_code 80 = .ok (.iconst 0, 1) := by decide +kernel
theorem d2_81 : decode method_3_code 81 = .ok (.ireturn, 1) := by decide +kernel
theorem d2_82 : decode method_3_code 82 = .ok (.iload_n 0, 1) := by decide +kernel
theorem d2_83 : decode method_3_code 83 = .ok (.sipush 8192, 3) := by decide +kernel
theorem d2_86 : decode method_3_code 86 = .ok (.if_icmp .lt 12, 3) := by decide +kernel
theorem d2_89 : decode method_3_code 89 = .ok (.iload_n 0, 1) := by decide +kernel
theorem d2_90 : decode method_3_code 90 = .ok (.sipush 8203, 3) := by decide +kernel
theorem d2_93 : decode method_3_code 93 = .ok (.if_icmp .gt 5, 3) := by decide +kernel
theorem d2_96 : decode method_3_code 96 = .ok (.iconst 0, 1) := by decide +kernel
theorem d2_97 : decode method_3_code 97 = .ok (.ireturn, 1) := by decide +kernel
theorem d2_98 : decode method_3_code 98 = .ok (.iload_n 0, 1) := by decide +kernel
theorem d2_99 : decode method_3_code 99 = .ok (.sipush 8206, 3) := by decide +kernel
theorem d2_102 : decode method_3_code 102 = .ok (.if_icmp .lt 12, 3) := by decide +kernel
theorem d2_105 : decode method_3_code 105 = .ok (.iload_n 0, 1) := by decide +kernel
theorem d2_106 : decode method_3_code 106 = .ok (.sipush 8303, 3) := by decide +kernel
theorem d2_109 : decode method_3_code 109 = .ok (.if_icmp .gt 5, 3) := by decide +kernel
theorem d2_112 : decode method_3_code 112 = .ok (.iconst 0, 1) := by decide +kernel
theorem d2_113 : decode method_3_code 113 = .ok (.ireturn, 1) := by decide +kernel
theorem d2_114 : decode method_3_code 114 = .ok (.iload_n 0, 1) := by decide +kernel
theorem d2_115 : decode method_3_code 115 = .ok (.sipush 8592, 3) := by decide +kernel
theorem d2_118 : decode method_3_code 118 = .ok (.if_icmp .lt 12, 3) := by decide +kernel
theorem d2_121 : decode method_3_code 121 = .ok (.iload_n 0, 1) := by decide +kernel
theorem d2_122 : decode method_3_code 122 = .ok (.sipush 11263, 3) := by decide +kernel
theorem d2_125 : decode method_3_code 125 = .ok (.if_icmp .gt 5, 3) := by decide +kernel
theorem d2_128 : decode method_3_code 128 = .ok (.iconst 0, 1) := by decide +kernel
theorem d2_129 : decode method_3_code 129 = .ok (.ireturn, 1) := by decide +kernel
theorem d2_130 : decode method_3_code 130 = .ok (.iload_n 0, 1) := by decide +kernel
theorem d2_131 : decode method_3_code 131 = .ok (.sipush 12272, 3) := by decide +kernel
theorem d2_134 : decode method_3_code 134 = .ok (.if_icmp .lt 12, 3) := by decide +kernel
theorem d2_137 : decode method_3_code 137 = .ok (.iload_n 0, 1) := by decide +kernel
theorem d2_138 : decode method_3_code 138 = .ok (.sipush 12288, 3) := by decide +kernel
theorem d2_141 : decode method_3_code 141 = .ok (.if_icmp .gt 5, 3) := by decide +kernel
theorem d2_144 : decode method_3_code 144 = .ok (.iconst 0, 1) := by decide +kernel
theorem d2_145 : decode method_3_code 145 = .ok (.ireturn, 1) := by decide +kernel
theorem d2_146 : decode method_3_code 146 = .ok (.iload_n 0, 1) := by decide +kernel
theorem d2_147 : decode method_3_code 147 = .ok (.ldc 7, 2) := by decide +kernel
theorem d2_149 : decode method_3_code 149 = .ok (.if_icmp .lt 11, 3) := by decide +kernel
theorem d2_152 : decode method_3_code 152 = .ok (.iload_n 0, 1) := by decide +kernel
theorem d2_153 : decode method_3_code 153 = .ok (.ldc 31, 2) := by decide +kernel
theorem d2_155 : decode method_3_code 155 = .ok (.if_icmp .gt 5, 3) := by decide +kernel
theorem d2_158 : decode method_3_code 158 = .ok (.iconst 0, 1) := by decide +kernel
theorem d2_159 : decode method_3_code 159 = .ok (.ireturn, 1) := by decide +kernel
theorem d2_160 : decode method_3_code 160 = .ok (.iload_n 0, 1) := by decide +kernel
theorem d2_161 : decode method_3_code 161 = .ok (.ldc 9, 2) := by decide +kernel
theorem d2_163 : decode method_3_code 163 = .ok (.if_icmp .lt 11, 3) := by decide +kernel
theorem d2_166 : decode method_3_code 166 = .ok (.iload_n 0, 1) := by decide +kernel
theorem d2_167 : decode method_3_code 167 = .ok (.ldc 32, 2) := by decide +kernel
theorem d2_169 : decode method_3_code 169 = .ok (.if_icmp .gt 5, 3) := by decide +kernel
theorem d2_172 : decode method_3_code 172 = .ok (.iconst 0, 1) := by decide +kernel
theorem d2_173 : decode method_3_code 173 = .ok (.ireturn, 1) := by decide +kernel
theorem d2_174 : decode method_3_code 174 = .ok (.iload_n 0, 1) := by decide +kernel
theorem d2_175 : decode method_3_code 175 = .ok (.ldc 11, 2) := by decide +kernel
theorem d2_177 : decode method_3_code 177 = .ok (.if_icmp .lt 11, 3) := by decide +kernel
theorem d2_180 : decode method_3_code 180 = .ok (.iload_n 0, 1) := by decide +kernel
theorem d2_181 : decode method_3_code 181 = .ok (.ldc 33, 2) := by decide +kernel
theorem d2_183 : decode method_3_code 183 = .ok (.if_icmp .gt 5, 3) := by decide +kernel
theorem d2_186 : decode method_3_code 186 = .ok (.iconst 0, 1) := by decide +kernel
theorem d2_187 : decode method_3_code 187 = .ok (.ireturn, 1) := by decide +kernel
theorem d2_188 : decode method_3_code 188 = .ok (.iconst 1, 1) := by decide +kernel
theorem d2_189 : decode method_3_code 189 = .ok (.ireturn, 1) := by decide +kernel
theorem pn2 : plainFor (⟨"quoth/rdf/BlankNodeIsLetterPinLaw", "ref", "(I)Z"⟩ : MethodName) = true := by decide +kernel
theorem ef2 (p1 : Int32) (m : MethodId) : entryFrame m #[(.int p1)] 1 = mkF m 0 #[.val (.int p1)] [] := by first | (simp [entryFrame, mkF, argsToLocals, Value.category]; done) | rfl
def g2_188 (p1 : Int32) : Int32 := (1 : Int32)
def g2_174 (p1 : Int32) : Int32 := if p1 < (65534 : Int32) then (g2_188 p1) else if (65535 : Int32) < p1 then (g2_188 p1) else (0 : Int32)
def g2_160 (p1 : Int32) : Int32 := if p1 < (64976 : Int32) then (g2_174 p1) else if (65007 : Int32) < p1 then (g2_174 p1) else (0 : Int32)
def g2_146 (p1 : Int32) : Int32 := if p1 < (55296 : Int32) then (g2_160 p1) else if (63743 : Int32) < p1 then (g2_160 p1) else (0 : Int32)
def g2_130 (p1 : Int32) : Int32 := if p1 < (12272 : Int32) then (g2_146 p1) else if (12288 : Int32) < p1 then (g2_146 p1) else (0 : Int32)
def g2_114 (p1 : Int32) : Int32 := if p1 < (8592 : Int32) then (g2_130 p1) else if (11263 : Int32) < p1 then (g2_130 p1) else (0 : Int32)
def g2_98 (p1 : Int32) : Int32 := if p1 < (8206 : Int32) then (g2_114 p1) else if (8303 : Int32) < p1 then (g2_114 p1) else (0 : Int32)
def g2_82 (p1 : Int32) : Int32 := if p1 < (8192 : Int32) then (g2_98 p1) else if (8203 : Int32) < p1 then (g2_98 p1) else (0 : Int32)
def g2_64 (p1 : Int32) : Int32 := (0 : Int32)
def g2_41 (p1 : Int32) : Int32 := (0 : Int32)
def g2_28 (p1 : Int32) : Int32 := if p1 < (192 : Int32) then (g2_41 p1) else if (983039 : Int32) < p1 then (g2_41 p1) else if p1 = (215 : Int32) then (g2_64 p1) else if p1 = (247 : Int32) then (g2_64 p1) else if p1 = (894 : Int32) then (g2_64 p1) else if p1 < (768 : Int32) then (g2_82 p1) else if (879 : Int32) < p1 then (g2_82 p1) else (0 : Int32)
def g2_14 (p1 : Int32) : Int32 := if p1 < (97 : Int32) then (g2_28 p1) else if (122 : Int32) < p1 then (g2_28 p1) else (1 : Int32)
def g2_0 (p1 : Int32) : Int32 := if p1 < (65 : Int32) then (g2_14 p1) else if (90 : Int32) < p1 then (g2_14 p1) else (1 : Int32)
def f2 (p1 : Int32) : Int32 := g2_0 p1
set_option maxRecDepth 65536 in
set_option maxHeartbeats 40000000 in
theorem rm2 (l : Launch) (Z : State) (a0 : Array Value) (hw : ∀ d ∈ tables_1, d.before a0 Z = true) (ws : List Jvm.Cond) (p1 : Int32) (h0 : Heap) (n0 : Nat) :
    JMet l Z (⟨"quoth/rdf/BlankNodeIsLetterPinLaw", "ref", "(I)Z"⟩ : MethodName) method_3_code 1 (some .boolean) ws ({ frames := 0, cells := 0, slots := 0, locals := 0 } : Room) #[(.int p1)] h0 (QP (.int (f2 p1)) h0 n0) := by
  refine Jvm.JW.body #[.val (.int p1)] pn2 (ef2 p1) ?_
  intro p e s m below meth c T0 D A F X0 hx hZ hby hml hown hnm hrt hlk e0
  have B188 : f2 p1 = g2_188 p1 → D (T0.setTop (mkF m 188 #[.val (.int p1)] [])) := by
    intro hq
    refine A (XS.iconst X0.here hx rfl (hb hby d2_188)) ?_
    show D (T0.setTop (mkF m 189 #[.val (.int p1)] [(.int (1 : Int32))]))
    refine F _ (Jvm.JW.ret X0 hlk (v := some (.int (1 : Int32))) (fun h => by rw [hrt] at h; cases h) (fun fs hr => retOut X0 hx hrt rfl (Or.inl ⟨rfl, Or.inr (Or.inl rfl), _, rfl⟩) (hb hby d2_189) hr) rfl ?_ (by decide) (by decide))
    exact ⟨congrArg (fun z => some (Value.int z)) hq.symm, (Fr.nil n0), e0⟩
  have B174 : f2 p1 = g2_174 p1 → D (T0.setTop (mkF m 174 #[.val (.int p1)] [])) := by
    intro hq
    refine A (XS.iloadN X0.here hx rfl (hb hby d2_174) rfl) ?_
    show D (T0.setTop (mkF m 175 #[.val (.int p1)] [(.int p1)]))
    refine A (X0.ldcInt hx hown (mvT hZ (hw _ (List.mem_of_getElem? (i := 5) rfl))) (g := (mkF m 175 #[.val (.int p1)] [(.int p1)])) rfl (hb hby d2_175) _) ?_
    show D (T0.setTop (mkF m 177 #[.val (.int p1)] [(.int (65534 : Int32)), (.int p1)]))
    by_cases c177_1 : p1 < (65534 : Int32)
    · refine A (XS.icmpYes X0.here hx rfl (pc0 := 177) (pc' := 188) rfl (hb hby d2_177) rfl (tlt c177_1).1 (by decide) (by decide)) ?_
      show D (T0.setTop (mkF m 188 #[.val (.int p1)] []))
      exact B188 (hq.trans (if_pos c177_1))
    · refine A (XS.icmpNo X0.here hx rfl (hb hby d2_177) rfl (flt c177_1).1) ?_
      show D (T0.setTop (mkF m 180 #[.val (.int p1)] []))
      refine A (XS.iloadN X0.here hx rfl (hb hby d2_180) rfl) ?_
      show D (T0.setTop (mkF m 181 #[.val (.int p1)] [(.int p1)]))
      refine A (X0.ldcInt hx hown (mvT hZ (hw _ (List.mem_of_getElem? (i := 29) rfl))) (g := (mkF m 181 #[.val (.int p1)] [(.int p1)])) rfl (hb hby d2_181) _) ?_
      show D (T0.setTop (mkF m 183 #[.val (.int p1)] [(.int (65535 : Int32)), (.int p1)]))
      by_cases c183_2 : (65535 : Int32) < p1
      · refine A (XS.icmpYes X0.here hx rfl (pc0 := 183) (pc' := 188) rfl (hb hby d2_183) rfl (tlt c183_2).2.2.1 (by decide) (by decide)) ?_
        show D (T0.setTop (mkF m 188 #[.val (.int p1)] []))
        exact B188 (hq.trans ((if_neg c177_1).trans (if_pos c183_2)))
      · refine A (XS.icmpNo X0.here hx rfl (hb hby d2_183) rfl (flt c183_2).2.2.1) ?_
        show D (T0.setTop (mkF m 186 #[.val (.int p1)] []))
        refine A (XS.iconst X0.here hx rfl (hb hby d2_186)) ?_
        show D (T0.setTop (mkF m 187 #[.val (.int p1)] [(.int (0 : Int32))]))
        refine F _ (Jvm.JW.ret X0 hlk (v := some (.int (0 : Int32))) (fun h => by rw [hrt] at h; cases h) (fun fs hr => retOut X0 hx hrt rfl (Or.inl ⟨rfl, Or.inr (Or.inl rfl), _, rfl⟩) (hb hby d2_187) hr) rfl ?_ (by decide) (by decide))
        exact ⟨congrArg (fun z => some (Value.int z)) (hq.trans ((if_neg c177_1).trans (if_neg c183_2))).symm, (Fr.nil n0), e0⟩
  have B160 : f2 p1 = g2_160 p1 → D (T0.setTop (mkF m 160 #[.val (.int p1)] [])) := by
    intro hq
    refine A (XS.iloadN X0.here hx rfl (hb hby d2_160) rfl) ?_
    show D (T0.setTop (mkF m 161 #[.val (.int p1)] [(.int p1)]))
    refine A (X0.ldcInt hx hown (mvT hZ (hw _ (List.mem_of_getElem? (i := 3) rfl))) (g := (mkF m 161 #[.val (.int p1)] [(.int p1)])) rfl (hb hby d2_161) _) ?_
    show D (T0.setTop (mkF m 163 #[.val (.int p1)] [(.int (64976 : Int32)), (.int p1)]))
    by_cases c163_3 : p1 < (64976 : Int32)
    · refine A (XS.icmpYes X0.here hx rfl (pc0 := 163) (pc' := 174) rfl (hb hby d2_163) rfl (tlt c163_3).1 (by decide) (by decide)) ?_
      show D (T0.setTop (mkF m 174 #[.val (.int p1)] []))
      exact B174 (hq.trans (if_pos c163_3))
    · refine A (XS.icmpNo X0.here hx rfl (hb hby d2_163) rfl (flt c163_3).1) ?_
      show D (T0.setTop (mkF m 166 #[.val (.int p1)] []))
      refine A (XS.iloadN X0.here hx rfl (hb hby d2_166) rfl) ?_
      show D (T0.setTop (mkF m 167 #[.val (.int p1)] [(.int p1)]))
      refine A (X0.ldcInt hx hown (mvT hZ (hw _ (List.mem_of_getElem? (i := 28) rfl))) (g := (mkF m 167 #[.val (.int p1)] [(.int p1)])) rfl (hb hby d2_167) _) ?_
      show D (T0.setTop (mkF m 169 #[.val (.int p1)] [(.int (65007 : Int32)), (.int p1)]))
      by_cases c169_4 : (65007 : Int32) < p1
      · refine A (XS.icmpYes X0.here hx rfl (pc0 := 169) (pc' := 174) rfl (hb hby d2_169) rfl (tlt c169_4).2.2.1 (by decide) (by decide)) ?_
        show D (T0.setTop (mkF m 174 #[.val (.int p1)] []))
        exact B174 (hq.trans ((if_neg c163_3).trans (if_pos c169_4)))
      · refine A (XS.icmpNo X0.here hx rfl (hb hby d2_169) rfl (flt c169_4).2.2.1) ?_
        show D (T0.setTop (mkF m 172 #[.val (.int p1)] []))
        refine A (XS.iconst X0.here hx rfl (hb hby d2_172)) ?_
        show D (T0.setTop (mkF m 173 #[.val (.int p1)] [(.int (0 : Int32))]))
        refine F _ (Jvm.JW.ret X0 hlk (v := some (.int (0 : Int32))) (fun h => by rw [hrt] at h; cases h) (fun fs hr => retOut X0 hx hrt rfl (Or.inl ⟨rfl, Or.inr (Or.inl rfl), _, rfl⟩) (hb hby d2_173) hr) rfl ?_ (by decide) (by decide))
        exact ⟨congrArg (fun z => some (Value.int z)) (hq.trans ((if_neg c163_3).trans (if_neg c169_4))).symm, (Fr.nil n0), e0⟩
  have B146 : f2 p1 = g2_146 p1 → D (T0.setTop (mkF m 146 #[.val (.int p1)] [])) := by
    intro hq
    refine A (XS.iloadN X0.here hx rfl (hb hby d2_146) rfl) ?_
    show D (T0.setTop (mkF m 147 #[.val (.int p1)] [(.int p1)]))
    refine A (X0.ldcInt hx hown (mvT hZ (hw _ (List.mem_of_getElem? (i := 1) rfl))) (g := (mkF m 147 #[.val (.int p1)] [(.int p1)])) rfl (hb hby d2_147) _) ?_
    show D (T0.setTop (mkF m 149 #[.val (.int p1)] [(.int (55296 : Int32)), (.int p1)]))
    by_cases c149_5 : p1 < (55296 : Int32)
    · refine A (XS.icmpYes X0.here hx rfl (pc0 := 149) (pc' := 160) rfl (hb hby d2_149) rfl (tlt c149_5).1 (by decide) (by decide)) ?_
      show D (T0.setTop (mkF m 160 #[.val (.int p1)] []))
      exact B160 (hq.trans (if_pos c149_5))
    · refine A (XS.icmpNo X0.here hx rfl (hb hby d2_149) rfl (flt c149_5).1) ?_
      show D (T0.setTop (mkF m 152 #[.val (.int p1)] []))
      refine A (XS.iloadN X0.here hx rfl (hb hby d2_152) rfl) ?_
      show D (T0.setTop (mkF m 153 #[.val (.int p1)] [(.int p1)]))
      refine A (X0.ldcInt hx hown (mvT hZ (hw _ (List.mem_of_getElem? (i := 27) rfl))) (g := (mkF m 153 #[.val (.int p1)] [(.int p1)])) rfl (hb hby d2_153) _) ?_
      show D (T0.setTop (mkF m 155 #[.val (.int p1)] [(.int (63743 : Int32)), (.int p1)]))
      by_cases c155_6 : (63743 : Int32) < p1
      · refine A (XS.icmpYes X0.here hx rfl (pc0 := 155) (pc' := 160) rfl (hb hby d2_155) rfl (tlt c155_6).2.2.1 (by decide) (by decide)) ?_
        show D (T0.setTop (mkF m 160 #[.val (.int p1)] []))
        exact B160 (hq.trans ((if_neg c149_5).trans (if_pos c155_6)))
      · refine A (XS.icmpNo X0.here hx rfl (hb hby d2_155) rfl (flt c155_6).2.2.1) ?_
        show D (T0.setTop (mkF m 158 #[.val (.int p1)] []))
        refine A (XS.iconst X0.here hx rfl (hb hby d2_158)) ?_
        show D (T0.setTop (mkF m 159 #[.val (.int p1)] [(.int (0 : Int32))]))
        refine F _ (Jvm.JW.ret X0 hlk (v := some (.int (0 : Int32))) (fun h => by rw [hrt] at h; cases h) (fun fs hr => retOut X0 hx hrt rfl (Or.inl ⟨rfl, Or.inr (Or.inl rfl), _, rfl⟩) (hb hby d2_159) hr) rfl ?_ (by decide) (by decide))
        exact ⟨congrArg (fun z => some (Value.int z)) (hq.trans ((if_neg c149_5).trans (if_neg c155_6))).symm, (Fr.nil n0), e0⟩
  have B130 : f2 p1 = g2_130 p1 → D (T0.setTop (mkF m 130 #[.val (.int p1)] [])) := by
    intro hq
    refine A (XS.iloadN X0.here hx rfl (hb hby d2_130) rfl) ?_
    show D (T0.setTop (mkF m 131 #[.val (.int p1)] [(.int p1)]))
    refine A (XS.sipush X0.here hx rfl (hb hby d2_131)) ?_
    show D (T0.setTop (mkF m 134 #[.val (.int p1)] [(.int (12272 : Int32)), (.int p1)]))
    by_cases c134_7 : p1 < (12272 : Int32)
    · refine A (XS.icmpYes X0.here hx rfl (pc0 := 134) (pc' := 146) rfl (hb hby d2_134) rfl (tlt c134_7).1 (by decide) (by decide)) ?_
      show D (T0.setTop (mkF m 146 #[.val (.int p1)] []))
      exact B146 (hq.trans (if_pos c134_7))
    · refine A (XS.icmpNo X0.here hx rfl (hb hby d2_134) rfl (flt c134_7).1) ?_
      show D (T0.setTop (mkF m 137 #[.val (.int p1)] []))
      refine A (XS.iloadN X0.here hx rfl (hb hby d2_137) rfl) ?_
      show D (T0.setTop (mkF m 138 #[.val (.int p1)] [(.int p1)]))
      refine A (XS.sipush X0.here hx rfl (hb hby d2_138)) ?_
      show D (T0.setTop (mkF m 141 #[.val (.int p1)] [(.int (12288 : Int32)), (.int p1)]))
      by_cases c141_8 : (12288 : Int32) < p1
      · refine A (XS.icmpYes X0.here hx rfl (pc0 := 141) (pc' := 146) rfl (hb hby d2_141) rfl (tlt c141_8).2.2.1 (by decide) (by decide)) ?_
        show D (T0.setTop (mkF m 146 #[.val (.int p1)] []))
        exact B146 (hq.trans ((if_neg c134_7).trans (if_pos c141_8)))
      · refine A (XS.icmpNo X0.here hx rfl (hb hby d2_141) rfl (flt c141_8).2.2.1) ?_
        show D (T0.setTop (mkF m 144 #[.val (.int p1)] []))
        refine A (XS.iconst X0.here hx rfl (hb hby d2_144)) ?_
        show D (T0.setTop (mkF m 145 #[.val (.int p1)] [(.int (0 : Int32))]))
        refine F _ (Jvm.JW.ret X0 hlk (v := some (.int (0 : Int32))) (fun h => by rw [hrt] at h; cases h) (fun fs hr => retOut X0 hx hrt rfl (Or.inl ⟨rfl, Or.inr (Or.inl rfl), _, rfl⟩) (hb hby d2_145) hr) rfl ?_ (by decide) (by decide))
        exact ⟨congrArg (fun z => some (Value.int z)) (hq.trans ((if_neg c134_7).trans (if_neg c141_8))).symm, (Fr.nil n0), e0⟩
  have B114 : f2 p1 = g2_114 p1 → D (T0.setTop (mkF m 114 #[.val (.int p1)] [])) := by
    intro hq
    refine A (XS.iloadN X0.here hx rfl (hb hby d2_114) rfl) ?_
    show D (T0.setTop (mkF m 115 #[.val (.int p1)] [(.int p1)]))
    refine A (XS.sipush X0.here hx rfl (hb hby d2_115)) ?_
    show D (T0.setTop (mkF m 118 #[.val (.int p1)] [(.int (8592 : Int32)), (.int p1)]))
    by_cases c118_9 : p1 < (8592 : Int32)
    · refine A (XS.icmpYes X0.here hx rfl (pc0 := 118) (pc' := 130) rfl (hb hby d2_118) rfl (tlt c118_9).1 (by decide) (by decide)) ?_
      show D (T0.setTop (mkF m 130 #[.val (.int p1)] []))
      exact B130 (hq.trans (if_pos c118_9))
    · refine A (XS.icmpNo X0.here hx rfl (hb hby d2_118) rfl (flt c118_9).1) ?_
      show D (T0.setTop (mkF m 121 #[.val (.int p1)] []))
      refine A (XS.iloadN X0.here hx rfl (hb hby d2_121) rfl) ?_
      show D (T0.setTop (mkF m 122 #[.val (.int p1)] [(.int p1)]))
      refine A (XS.sipush X0.here hx rfl (hb hby d2_122)) ?_
      show D (T0.setTop (mkF m 125 #[.val (.int p1)] [(.int (11263 : Int32)), (.int p1)]))
      by_cases c125_10 : (11263 : Int32) < p1
      · refine A (XS.icmpYes X0.here hx rfl (pc0 := 125) (pc' := 130) rfl (hb hby d2_125) rfl (tlt c125_10).2.2.1 (by decide) (by decide)) ?_
        show D (T0.setTop (mkF m 130 #[.val (.int p1)] []))
        exact B130 (hq.trans ((if_neg c118_9).trans (if_pos c125_10)))
      · refine A (XS.icmpNo X0.here hx rfl (hb hby d2_125) rfl (flt c125_10).2.2.1) ?_
        show D (T0.setTop (mkF m 128 #[.val (.int p1)] []))
        refine A (XS.iconst X0.here hx rfl (hb hby d2_128)) ?_
        show D (T0.setTop (mkF m 129 #[.val (.int p1)] [(.int (0 : Int32))]))
        refine F _ (Jvm.JW.ret X0 hlk (v := some (.int (0 : Int32))) (fun h => by rw [hrt] at h; cases h) (fun fs hr => retOut X0 hx hrt rfl (Or.inl ⟨rfl, Or.inr (Or.inl rfl), _, rfl⟩) (hb hby d2_129) hr) rfl ?_ (by decide) (by decide))
        exact ⟨congrArg (fun z => some (Value.int z)) (hq.trans ((if_neg c118_9).trans (if_neg c125_10))).symm, (Fr.nil n0), e0⟩
  have B98 : f2 p1 = g2_98 p1 → D (T0.setTop (mkF m 98 #[.val (.int p1)] [])) := by
    intro hq
    refine A (XS.iloadN X0.here hx rfl (hb hby d2_98) rfl) ?_
    show D (T0.setTop (mkF m 99 #[.val (.int p1)] [(.int p1)]))
    refine A (XS.sipush X0.here hx rfl (hb hby d2_99)) ?_
    show D (T0.setTop (mkF m 102 #[.val (.int p1)] [(.int (8206 : Int32)), (.int p1)]))
    by_cases c102_11 : p1 < (8206 : Int32)
    · refine A (XS.icmpYes X0.here hx rfl (pc0 := 102) (pc' := 114) rfl (hb hby d2_102) rfl (tlt c102_11).1 (by decide) (by decide)) ?_
      show D (T0.setTop (mkF m 114 #[.val (.int p1)] []))
      exact B114 (hq.trans (if_pos c102_11))
    · refine A (XS.icmpNo X0.here hx rfl (hb hby d2_102) rfl (flt c102_11).1) ?_
      show D (T0.setTop (mkF m 105 #[.val (.int p1)] []))
      refine A (XS.iloadN X0.here hx rfl (hb hby d2_105) rfl) ?_
      show D (T0.setTop (mkF m 106 #[.val (.int p1)] [(.int p1)]))
      refine A (XS.sipush X0.here hx rfl (hb hby d2_106)) ?_
      show D (T0.setTop (mkF m 109 #[.val (.int p1)] [(.int (8303 : Int32)), (.int p1)]))
      by_cases c109_12 : (8303 : Int32) < p1
      · refine A (XS.icmpYes X0.here hx rfl (pc0 := 109) (pc' := 114) rfl (hb hby d2_109) rfl (tlt c109_12).2.2.1 (by decide) (by decide)) ?_
        show D (T0.setTop (mkF m 114 #[.val (.int p1)] []))
        exact B114 (hq.trans ((if_neg c102_11).trans (if_pos c109_12)))
      · refine A (XS.icmpNo X0.here hx rfl (hb hby d2_109) rfl (flt c109_12).2.2.1) ?_
        show D (T0.setTop (mkF m 112 #[.val (.int p1)] []))
        refine A (XS.iconst X0.here hx rfl (hb hby d2_112)) ?_
        show D (T0.setTop (mkF m 113 #[.val (.int p1)] [(.int (0 : Int32))]))
        refine F _ (Jvm.JW.ret X0 hlk (v := some (.int (0 : Int32))) (fun h => by rw [hrt] at h; cases h) (fun fs hr => retOut X0 hx hrt rfl (Or.inl ⟨rfl, Or.inr (Or.inl rfl), _, rfl⟩) (hb hby d2_113) hr) rfl ?_ (by decide) (by decide))
        exact ⟨congrArg (fun z => some (Value.int z)) (hq.trans ((if_neg c102_11).trans (if_neg c109_12))).symm, (Fr.nil n0), e0⟩
  have B82 : f2 p1 = g2_82 p1 → D (T0.setTop (mkF m 82 #[.val (.int p1)] [])) := by
    intro hq
    refine A (XS.iloadN X0.here hx rfl (hb hby d2_82) rfl) ?_
    show D (T0.setTop (mkF m 83 #[.val (.int p1)] [(.int p1)]))
    refine A (XS.sipush X0.here hx rfl (hb hby d2_83)) ?_
    show D (T0.setTop (mkF m 86 #[.val (.int p1)] [(.int (8192 : Int32)), (.int p1)]))
    by_cases c86_13 : p1 < (8192 : Int32)
    · refine A (XS.icmpYes X0.here hx rfl (pc0 := 86) (pc' := 98) rfl (hb hby d2_86) rfl (tlt c86_13).1 (by decide) (by decide)) ?_
      show D (T0.setTop (mkF m 98 #[.val (.int p1)] []))
      exact B98 (hq.trans (if_pos c86_13))
    · refine A (XS.icmpNo X0.here hx rfl (hb hby d2_86) rfl (flt c86_13).1) ?_
      show D (T0.setTop (mkF m 89 #[.val (.int p1)] []))
      refine A (XS.iloadN X0.here hx rfl (hb hby d2_89) rfl) ?_
      show D (T0.setTop (mkF m 90 #[.val (.int p1)] [(.int p1)]))
      refine A (XS.sipush X0.here hx rfl (hb hby d2_90)) ?_
      show D (T0.setTop (mkF m 93 #[.val (.int p1)] [(.int (8203 : Int32)), (.int p1)]))
      by_cases c93_14 : (8203 : Int32) < p1
      · refine A (XS.icmpYes X0.here hx rfl (pc0 := 93) (pc' := 98) rfl (hb hby d2_93) rfl (tlt c93_14).2.2.1 (by decide) (by decide)) ?_
        show D (T0.setTop (mkF m 98 #[.val (.int p1)] []))
        exact B98 (hq.trans ((if_neg c86_13).trans (if_pos c93_14)))
      · refine A (XS.icmpNo X0.here hx rfl (hb hby d2_93) rfl (flt c93_14).2.2.1) ?_
        show D (T0.setTop (mkF m 96 #[.val (.int p1)] []))
        refine A (XS.iconst X0.here hx rfl (hb hby d2_96)) ?_
        show D (T0.setTop (mkF m 97 #[.val (.int p1)] [(.int (0 : Int32))]))
        refine F _ (Jvm.JW.ret X0 hlk (v := some (.int (0 : Int32))) (fun h => by rw [hrt] at h; cases h) (fun fs hr => retOut X0 hx hrt rfl (Or.inl ⟨rfl, Or.inr (Or.inl rfl), _, rfl⟩) (hb hby d2_97) hr) rfl ?_ (by decide) (by decide))
        exact ⟨congrArg (fun z => some (Value.int z)) (hq.trans ((if_neg c86_13).trans (if_neg c93_14))).symm, (Fr.nil n0), e0⟩
  have B64 : f2 p1 = g2_64 p1 → D (T0.setTop (mkF m 64 #[.val (.int p1)] [])) := by
    intro hq
    refine A (XS.iconst X0.here hx rfl (hb hby d2_64)) ?_
    show D (T0.setTop (mkF m 65 #[.val (.int p1)] [(.int (0 : Int32))]))
    refine F _ (Jvm.JW.ret X0 hlk (v := some (.int (0 : Int32))) (fun h => by rw [hrt] at h; cases h) (fun fs hr => retOut X0 hx hrt rfl (Or.inl ⟨rfl, Or.inr (Or.inl rfl), _, rfl⟩) (hb hby d2_65) hr) rfl ?_ (by decide) (by decide))
    exact ⟨congrArg (fun z => some (Value.int z)) hq.symm, (Fr.nil n0), e0⟩
  have B41 : f2 p1 = g2_41 p1 → D (T0.setTop (mkF m 41 #[.val (.int p1)] [])) := by
    intro hq
    refine A (XS.iconst X0.here hx rfl (hb hby d2_41)) ?_
    show D (T0.setTop (mkF m 42 #[.val (.int p1)] [(.int (0 : Int32))]))
    refine F _ (Jvm.JW.ret X0 hlk (v := some (.int (0 : Int32))) (fun h => by rw [hrt] at h; cases h) (fun fs hr => retOut X0 hx hrt rfl (Or.inl ⟨rfl, Or.inr (Or.inl rfl), _, rfl⟩) (hb hby d2_42) hr) rfl ?_ (by decide) (by decide))
    exact ⟨congrArg (fun z => some (Value.int z)) hq.symm, (Fr.nil n0), e0⟩
  have B28 : f2 p1 = g2_28 p1 → D (T0.setTop (mkF m 28 #[.val (.int p1)] [])) := by
    intro hq
    refine A (XS.iloadN X0.here hx rfl (hb hby d2_28) rfl) ?_
    show D (T0.setTop (mkF m 29 #[.val (.int p1)] [(.int p1)]))
    refine A (XS.sipush X0.here hx rfl (hb hby d2_29)) ?_
    show D (T0.setTop (mkF m 32 #[.val (.int p1)] [(.int (192 : Int32)), (.int p1)]))
    by_cases c32_15 : p1 < (192 : Int32)
    · refine A (XS.icmpYes X0.here hx rfl (pc0 := 32) (pc' := 41) rfl (hb hby d2_32) rfl (tlt c32_15).1 (by decide) (by decide)) ?_
      show D (T0.setTop (mkF m 41 #[.val (.int p1)] []))
      exact B41 (hq.trans (if_pos c32_15))
    · refine A (XS.icmpNo X0.here hx rfl (hb hby d2_32) rfl (flt c32_15).1) ?_
      show D (T0.setTop (mkF m 35 #[.val (.int p1)] []))
      refine A (XS.iloadN X0.here hx rfl (hb hby d2_35) rfl) ?_
      show D (T0.setTop (mkF m 36 #[.val (.int p1)] [(.int p1)]))
      refine A (X0.ldcInt hx hown (mvT hZ (hw _ (List.mem_of_getElem? (i := 22) rfl))) (g := (mkF m 36 #[.val (.int p1)] [(.int p1)])) rfl (hb hby d2_36) _) ?_
      show D (T0.setTop (mkF m 38 #[.val (.int p1)] [(.int (983039 : Int32)), (.int p1)]))
      by_cases c38_16 : (983039 : Int32) < p1
      · refine A (XS.icmpNo X0.here hx rfl (hb hby d2_38) rfl (tlt c38_16).2.2.2) ?_
        show D (T0.setTop (mkF m 41 #[.val (.int p1)] []))
        exact B41 (hq.trans ((if_neg c32_15).trans (if_pos c38_16)))
      · refine A (XS.icmpYes X0.here hx rfl (pc0 := 38) (pc' := 43) rfl (hb hby d2_38) rfl (flt c38_16).2.2.2 (by decide) (by decide)) ?_
        show D (T0.setTop (mkF m 43 #[.val (.int p1)] []))
        refine A (XS.iloadN X0.here hx rfl (hb hby d2_43) rfl) ?_
        show D (T0.setTop (mkF m 44 #[.val (.int p1)] [(.int p1)]))
        refine A (XS.sipush X0.here hx rfl (hb hby d2_44)) ?_
        show D (T0.setTop (mkF m 47 #[.val (.int p1)] [(.int (215 : Int32)), (.int p1)]))
        by_cases c47_17 : p1 = (215 : Int32)
        · refine A (XS.icmpYes X0.here hx rfl (pc0 := 47) (pc' := 64) rfl (hb hby d2_47) rfl (teq c47_17).1 (by decide) (by decide)) ?_
          show D (T0.setTop (mkF m 64 #[.val (.int p1)] []))
          exact B64 (hq.trans (((if_neg c32_15).trans (if_neg c38_16)).trans (if_pos c47_17)))
        · refine A (XS.icmpNo X0.here hx rfl (hb hby d2_47) rfl (feq c47_17).1) ?_
          show D (T0.setTop (mkF m 50 #[.val (.int p1)] []))
          refine A (XS.iloadN X0.here hx rfl (hb hby d2_50) rfl) ?_
          show D (T0.setTop (mkF m 51 #[.val (.int p1)] [(.int p1)]))
          refine A (XS.sipush X0.here hx rfl (hb hby d2_51)) ?_
          show D (T0.setTop (mkF m 54 #[.val (.int p1)] [(.int (247 : Int32)), (.int p1)]))
          by_cases c54_18 : p1 = (247 : Int32)
          · refine A (XS.icmpYes X0.here hx rfl (pc0 := 54) (pc' := 64) rfl (hb hby d2_54) rfl (teq c54_18).1 (by decide) (by decide)) ?_
            show D (T0.setTop (mkF m 64 #[.val (.int p1)] []))
            exact B64 (hq.trans ((((if_neg c32_15).trans (if_neg c38_16)).trans (if_neg c47_17)).trans (if_pos c54_18)))
          · refine A (XS.icmpNo X0.here hx rfl (hb hby d2_54) rfl (feq c54_18).1) ?_
            show D (T0.setTop (mkF m 57 #[.val (.int p1)] []))
            refine A (XS.iloadN X0.here hx rfl (hb hby d2_57) rfl) ?_
            show D (T0.setTop (mkF m 58 #[.val (.int p1)] [(.int p1)]))
            refine A (XS.sipush X0.here hx rfl (hb hby d2_58)) ?_
            show D (T0.setTop (mkF m 61 #[.val (.int p1)] [(.int (894 : Int32)), (.int p1)]))
            by_cases c61_19 : p1 = (894 : Int32)
            · refine A (XS.icmpNo X0.here hx rfl (hb hby d2_61) rfl (teq c61_19).2) ?_
              show D (T0.setTop (mkF m 64 #[.val (.int p1)] []))
              exact B64 (hq.trans (((((if_neg c32_15).trans (if_neg c38_16)).trans (if_neg c47_17)).trans (if_neg c54_18)).trans (if_pos c61_19)))
            · refine A (XS.icmpYes X0.here hx rfl (pc0 := 61) (pc' := 66) rfl (hb hby d2_61) rfl (feq c61_19).2 (by decide) (by decide)) ?_
              show D (T0.setTop (mkF m 66 #[.val (.int p1)] []))
              refine A (XS.iloadN X0.here hx rfl (hb hby d2_66) rfl) ?_
              show D (T0.setTop (mkF m 67 #[.val (.int p1)] [(.int p1)]))
              refine A (XS.sipush X0.here hx rfl (hb hby d2_67)) ?_
              show D (T0.setTop (mkF m 70 #[.val (.int p1)] [(.int (768 : Int32)), (.int p1)]))
              by_cases c70_20 : p1 < (768 : Int32)
              · refine A (XS.icmpYes X0.here hx rfl (pc0 := 70) (pc' := 82) rfl (hb hby d2_70) rfl (tlt c70_20).1 (by decide) (by decide)) ?_
                show D (T0.setTop (mkF m 82 #[.val (.int p1)] []))
                exact B82 (hq.trans ((((((if_neg c32_15).trans (if_neg c38_16)).trans (if_neg c47_17)).trans (if_neg c54_18)).trans (if_neg c61_19)).trans (if_pos c70_20)))
              · refine A (XS.icmpNo X0.here hx rfl (hb hby d2_70) rfl (flt c70_20).1) ?_
                show D (T0.setTop (mkF m 73 #[.val (.int p1)] []))
                refine A (XS.iloadN X0.here hx rfl (hb hby d2_73) rfl) ?_
                show D (T0.setTop (mkF m 74 #[.val (.int p1)] [(.int p1)]))
                refine A (XS.sipush X0.here hx rfl (hb hby d2_74)) ?_
                show D (T0.setTop (mkF m 77 #[.val (.int p1)] [(.int (879 : Int32)), (.int p1)]))
                by_cases c77_21 : (879 : Int32) < p1
                · refine A (XS.icmpYes X0.here hx rfl (pc0 := 77) (pc' := 82) rfl (hb hby d2_77) rfl (tlt c77_21).2.2.1 (by decide) (by decide)) ?_
                  show D (T0.setTop (mkF m 82 #[.val (.int p1)] []))
                  exact B82 (hq.trans (((((((if_neg c32_15).trans (if_neg c38_16)).trans (if_neg c47_17)).trans (if_neg c54_18)).trans (if_neg c61_19)).trans (if_neg c70_20)).trans (if_pos c77_21)))
                · refine A (XS.icmpNo X0.here hx rfl (hb hby d2_77) rfl (flt c77_21).2.2.1) ?_
                  show D (T0.setTop (mkF m 80 #[.val (.int p1)] []))
                  refine A (XS.iconst X0.here hx rfl (hb hby d2_80)) ?_
                  show D (T0.setTop (mkF m 81 #[.val (.int p1)] [(.int (0 : Int32))]))
                  refine F _ (Jvm.JW.ret X0 hlk (v := some (.int (0 : Int32))) (fun h => by rw [hrt] at h; cases h) (fun fs hr => retOut X0 hx hrt rfl (Or.inl ⟨rfl, Or.inr (Or.inl rfl), _, rfl⟩) (hb hby d2_81) hr) rfl ?_ (by decide) (by decide))
                  exact ⟨congrArg (fun z => some (Value.int z)) (hq.trans (((((((if_neg c32_15).trans (if_neg c38_16)).trans (if_neg c47_17)).trans (if_neg c54_18)).trans (if_neg c61_19)).trans (if_neg c70_20)).trans (if_neg c77_21))).symm, (Fr.nil n0), e0⟩
  have B14 : f2 p1 = g2_14 p1 → D (T0.setTop (mkF m 14 #[.val (.int p1)] [])) := by
    intro hq
    refine A (XS.iloadN X0.here hx rfl (hb hby d2_14) rfl) ?_
    show D (T0.setTop (mkF m 15 #[.val (.int p1)] [(.int p1)]))
    refine A (XS.bipush X0.here hx rfl (hb hby d2_15)) ?_
    show D (T0.setTop (mkF m 17 #[.val (.int p1)] [(.int (97 : Int32)), (.int p1)]))
    by_cases c17_22 : p1 < (97 : Int32)
    · refine A (XS.icmpYes X0.here hx rfl (pc0 := 17) (pc' := 28) rfl (hb hby d2_17) rfl (tlt c17_22).1 (by decide) (by decide)) ?_
      show D (T0.setTop (mkF m 28 #[.val (.int p1)] []))
      exact B28 (hq.trans (if_pos c17_22))
    · refine A (XS.icmpNo X0.here hx rfl (hb hby d2_17) rfl (flt c17_22).1) ?_
      show D (T0.setTop (mkF m 20 #[.val (.int p1)] []))
      refine A (XS.iloadN X0.here hx rfl (hb hby d2_20) rfl) ?_
      show D (T0.setTop (mkF m 21 #[.val (.int p1)] [(.int p1)]))
      refine A (XS.bipush X0.here hx rfl (hb hby d2_21)) ?_
      show D (T0.setTop (mkF m 23 #[.val (.int p1)] [(.int (122 : Int32)), (.int p1)]))
      by_cases c23_23 : (122 : Int32) < p1
      · refine A (XS.icmpYes X0.here hx rfl (pc0 := 23) (pc' := 28) rfl (hb hby d2_23) rfl (tlt c23_23).2.2.1 (by decide) (by decide)) ?_
        show D (T0.setTop (mkF m 28 #[.val (.int p1)] []))
        exact B28 (hq.trans ((if_neg c17_22).trans (if_pos c23_23)))
      · refine A (XS.icmpNo X0.here hx rfl (hb hby d2_23) rfl (flt c23_23).2.2.1) ?_
        show D (T0.setTop (mkF m 26 #[.val (.int p1)] []))
        refine A (XS.iconst X0.here hx rfl (hb hby d2_26)) ?_
        show D (T0.setTop (mkF m 27 #[.val (.int p1)] [(.int (1 : Int32))]))
        refine F _ (Jvm.JW.ret X0 hlk (v := some (.int (1 : Int32))) (fun h => by rw [hrt] at h; cases h) (fun fs hr => retOut X0 hx hrt rfl (Or.inl ⟨rfl, Or.inr (Or.inl rfl), _, rfl⟩) (hb hby d2_27) hr) rfl ?_ (by decide) (by decide))
        exact ⟨congrArg (fun z => some (Value.int z)) (hq.trans ((if_neg c17_22).trans (if_neg c23_23))).symm, (Fr.nil n0), e0⟩
  have B0 : f2 p1 = g2_0 p1 → D (T0.setTop (mkF m 0 #[.val (.int p1)] [])) := by
    intro hq
    refine A (XS.iloadN X0.here hx rfl (hb hby d2_0) rfl) ?_
    show D (T0.setTop (mkF m 1 #[.val (.int p1)] [(.int p1)]))
    refine A (XS.bipush X0.here hx rfl (hb hby d2_1)) ?_
    show D (T0.setTop (mkF m 3 #[.val (.int p1)] [(.int (65 : Int32)), (.int p1)]))
    by_cases c3_24 : p1 < (65 : Int32)
    · refine A (XS.icmpYes X0.here hx rfl (pc0 := 3) (pc' := 14) rfl (hb hby d2_3) rfl (tlt c3_24).1 (by decide) (by decide)) ?_
      show D (T0.setTop (mkF m 14 #[.val (.int p1)] []))
      exact B14 (hq.trans (if_pos c3_24))
    · refine A (XS.icmpNo X0.here hx rfl (hb hby d2_3) rfl (flt c3_24).1) ?_
      show D (T0.setTop (mkF m 6 #[.val (.int p1)] []))
      refine A (XS.iloadN X0.here hx rfl (hb hby d2_6) rfl) ?_
      show D (T0.setTop (mkF m 7 #[.val (.int p1)] [(.int p1)]))
      refine A (XS.bipush X0.here hx rfl (hb hby d2_7)) ?_
      show D (T0.setTop (mkF m 9 #[.val (.int p1)] [(.int (90 : Int32)), (.int p1)]))
      by_cases c9_25 : (90 : Int32) < p1
      · refine A (XS.icmpYes X0.here hx rfl (pc0 := 9) (pc' := 14) rfl (hb hby d2_9) rfl (tlt c9_25).2.2.1 (by decide) (by decide)) ?_
        show D (T0.setTop (mkF m 14 #[.val (.int p1)] []))
        exact B14 (hq.trans ((if_neg c3_24).trans (if_pos c9_25)))
      · refine A (XS.icmpNo X0.here hx rfl (hb hby d2_9) rfl (flt c9_25).2.2.1) ?_
        show D (T0.setTop (mkF m 12 #[.val (.int p1)] []))
        refine A (XS.iconst X0.here hx rfl (hb hby d2_12)) ?_
        show D (T0.setTop (mkF m 13 #[.val (.int p1)] [(.int (1 : Int32))]))
        refine F _ (Jvm.JW.ret X0 hlk (v := some (.int (1 : Int32))) (fun h => by rw [hrt] at h; cases h) (fun fs hr => retOut X0 hx hrt rfl (Or.inl ⟨rfl, Or.inr (Or.inl rfl), _, rfl⟩) (hb hby d2_13) hr) rfl ?_ (by decide) (by decide))
        exact ⟨congrArg (fun z => some (Value.int z)) (hq.trans ((if_neg c3_24).trans (if_neg c9_25))).symm, (Fr.nil n0), e0⟩
  exact B0 rfl
theorem s2_188 (p1 : Int32) : g2_188 p1 = if ((-2147483648 ≤ p1.toInt ∧ p1.toInt ≤ 2147483647)) then 1 else 0 := by
  have r1 := p1.le_toInt; have r2 := p1.toInt_lt
  unfold g2_188
  repeat' split
  all_goals first | rfl | (exfalso; omega)
theorem s2_174 (p1 : Int32) : g2_174 p1 = if ((-2147483648 ≤ p1.toInt ∧ p1.toInt ≤ 65533) ∨ (65536 ≤ p1.toInt ∧ p1.toInt ≤ 2147483647)) then 1 else 0 := by
  have r1 := p1.le_toInt; have r2 := p1.toInt_lt
  unfold g2_174
  simp only [s2_188]
  simp only [Int32.lt_iff_toInt_lt, ← Int32.toInt_inj, show (65534 : Int32).toInt = 65534 from rfl, show (65535 : Int32).toInt = 65535 from rfl]
  repeat' split
  all_goals first | rfl | (exfalso; omega)
theorem s2_160 (p1 : Int32) : g2_160 p1 = if ((-2147483648 ≤ p1.toInt ∧ p1.toInt ≤ 64975) ∨ (65008 ≤ p1.toInt ∧ p1.toInt ≤ 65533) ∨ (65536 ≤ p1.toInt ∧ p1.toInt ≤ 2147483647)) then 1 else 0 := by
  have r1 := p1.le_toInt; have r2 := p1.toInt_lt
  unfold g2_160
  simp only [s2_174]
  simp only [Int32.lt_iff_toInt_lt, ← Int32.toInt_inj, show (64976 : Int32).toInt = 64976 from rfl, show (65007 : Int32).toInt = 65007 from rfl]
  repeat' split
  all_goals first | rfl | (exfalso; omega)
theorem s2_146 (p1 : Int32) : g2_146 p1 = if ((-2147483648 ≤ p1.toInt ∧ p1.toInt ≤ 55295) ∨ (63744 ≤ p1.toInt ∧ p1.toInt ≤ 64975) ∨ (65008 ≤ p1.toInt ∧ p1.toInt ≤ 65533) ∨ (65536 ≤ p1.toInt ∧ p1.toInt ≤ 2147483647)) then 1 else 0 := by
  have r1 := p1.le_toInt; have r2 := p1.toInt_lt
  unfold g2_146
  simp only [s2_160]
  simp only [Int32.lt_iff_toInt_lt, ← Int32.toInt_inj, show (55296 : Int32).toInt = 55296 from rfl, show (63743 : Int32).toInt = 63743 from rfl]
  repeat' split
  all_goals first | rfl | (exfalso; omega)
theorem s2_130 (p1 : Int32) : g2_130 p1 = if ((-2147483648 ≤ p1.toInt ∧ p1.toInt ≤ 12271) ∨ (12289 ≤ p1.toInt ∧ p1.toInt ≤ 55295) ∨ (63744 ≤ p1.toInt ∧ p1.toInt ≤ 64975) ∨ (65008 ≤ p1.toInt ∧ p1.toInt ≤ 65533) ∨ (65536 ≤ p1.toInt ∧ p1.toInt ≤ 2147483647)) then 1 else 0 := by
  have r1 := p1.le_toInt; have r2 := p1.toInt_lt
  unfold g2_130
  simp only [s2_146]
  simp only [Int32.lt_iff_toInt_lt, ← Int32.toInt_inj, show (12272 : Int32).toInt = 12272 from rfl, show (12288 : Int32).toInt = 12288 from rfl]
  repeat' split
  all_goals first | rfl | (exfalso; omega)
theorem s2_114 (p1 : Int32) : g2_114 p1 = if ((-2147483648 ≤ p1.toInt ∧ p1.toInt ≤ 8591) ∨ (11264 ≤ p1.toInt ∧ p1.toInt ≤ 12271) ∨ (12289 ≤ p1.toInt ∧ p1.toInt ≤ 55295) ∨ (63744 ≤ p1.toInt ∧ p1.toInt ≤ 64975) ∨ (65008 ≤ p1.toInt ∧ p1.toInt ≤ 65533) ∨ (65536 ≤ p1.toInt ∧ p1.toInt ≤ 2147483647)) then 1 else 0 := by
  have r1 := p1.le_toInt; have r2 := p1.toInt_lt
  unfold g2_114
  simp only [s2_130]
  simp only [Int32.lt_iff_toInt_lt, ← Int32.toInt_inj, show (8592 : Int32).toInt = 8592 from rfl, show (11263 : Int32).toInt = 11263 from rfl]
  repeat' split
  all_goals first | rfl | (exfalso; omega)
theorem s2_98 (p1 : Int32) : g2_98 p1 = if ((-2147483648 ≤ p1.toInt ∧ p1.toInt ≤ 8205) ∨ (8304 ≤ p1.toInt ∧ p1.toInt ≤ 8591) ∨ (11264 ≤ p1.toInt ∧ p1.toInt ≤ 12271) ∨ (12289 ≤ p1.toInt ∧ p1.toInt ≤ 55295) ∨ (63744 ≤ p1.toInt ∧ p1.toInt ≤ 64975) ∨ (65008 ≤ p1.toInt ∧ p1.toInt ≤ 65533) ∨ (65536 ≤ p1.toInt ∧ p1.toInt ≤ 2147483647)) then 1 else 0 := by
  have r1 := p1.le_toInt; have r2 := p1.toInt_lt
  unfold g2_98
  simp only [s2_114]
  simp only [Int32.lt_iff_toInt_lt, ← Int32.toInt_inj, show (8206 : Int32).toInt = 8206 from rfl, show (8303 : Int32).toInt = 8303 from rfl]
  repeat' split
  all_goals first | rfl | (exfalso; omega)
theorem s2_82 (p1 : Int32) : g2_82 p1 = if ((-2147483648 ≤ p1.toInt ∧ p1.toInt ≤ 8191) ∨ (8204 ≤ p1.toInt ∧ p1.toInt ≤ 8205) ∨ (8304 ≤ p1.toInt ∧ p1.toInt ≤ 8591) ∨ (11264 ≤ p1.toInt ∧ p1.toInt ≤ 12271) ∨ (12289 ≤ p1.toInt ∧ p1.toInt ≤ 55295) ∨ (63744 ≤ p1.toInt ∧ p1.toInt ≤ 64975) ∨ (65008 ≤ p1.toInt ∧ p1.toInt ≤ 65533) ∨ (65536 ≤ p1.toInt ∧ p1.toInt ≤ 2147483647)) then 1 else 0 := by
  have r1 := p1.le_toInt; have r2 := p1.toInt_lt
  unfold g2_82
  simp only [s2_98]
  simp only [Int32.lt_iff_toInt_lt, ← Int32.toInt_inj, show (8192 : Int32).toInt = 8192 from rfl, show (8203 : Int32).toInt = 8203 from rfl]
  repeat' split
  all_goals first | rfl | (exfalso; omega)
theorem s2_64 (p1 : Int32) : g2_64 p1 = if (False) then 1 else 0 := by
  have r1 := p1.le_toInt; have r2 := p1.toInt_lt
  unfold g2_64
  repeat' split
  all_goals first | rfl | (exfalso; omega)
theorem s2_41 (p1 : Int32) : g2_41 p1 = if (False) then 1 else 0 := by
  have r1 := p1.le_toInt; have r2 := p1.toInt_lt
  unfold g2_41
  repeat' split
  all_goals first | rfl | (exfalso; omega)
theorem s2_28 (p1 : Int32) : g2_28 p1 = if ((192 ≤ p1.toInt ∧ p1.toInt ≤ 214) ∨ (216 ≤ p1.toInt ∧ p1.toInt ≤ 246) ∨ (248 ≤ p1.toInt ∧ p1.toInt ≤ 767) ∨ (880 ≤ p1.toInt ∧ p1.toInt ≤ 893) ∨ (895 ≤ p1.toInt ∧ p1.toInt ≤ 8191) ∨ (8204 ≤ p1.toInt ∧ p1.toInt ≤ 8205) ∨ (8304 ≤ p1.toInt ∧ p1.toInt ≤ 8591) ∨ (11264 ≤ p1.toInt ∧ p1.toInt ≤ 12271) ∨ (12289 ≤ p1.toInt ∧ p1.toInt ≤ 55295) ∨ (63744 ≤ p1.toInt ∧ p1.toInt ≤ 64975) ∨ (65008 ≤ p1.toInt ∧ p1.toInt ≤ 65533) ∨ (65536 ≤ p1.toInt ∧ p1.toInt ≤ 983039)) then 1 else 0 := by
  have r1 := p1.le_toInt; have r2 := p1.toInt_lt
  unfold g2_28
  simp only [s2_41, s2_64, s2_82]
  simp only [Int32.lt_iff_toInt_lt, ← Int32.toInt_inj, show (192 : Int32).toInt = 192 from rfl, show (215 : Int32).toInt = 215 from rfl, show (247 : Int32).toInt = 247 from rfl, show (768 : Int32).toInt = 768 from rfl, show (879 : Int32).toInt = 879 from rfl, show (894 : Int32).toInt = 894 from rfl, show (983039 : Int32).toInt = 983039 from rfl]
  repeat' split
  all_goals first | rfl | (exfalso; omega)
theorem s2_14 (p1 : Int32) : g2_14 p1 = if ((97 ≤ p1.toInt ∧ p1.toInt ≤ 122) ∨ (192 ≤ p1.toInt ∧ p1.toInt ≤ 214) ∨ (216 ≤ p1.toInt ∧ p1.toInt ≤ 246) ∨ (248 ≤ p1.toInt ∧ p1.toInt ≤ 767) ∨ (880 ≤ p1.toInt ∧ p1.toInt ≤ 893) ∨ (895 ≤ p1.toInt ∧ p1.toInt ≤ 8191) ∨ (8204 ≤ p1.toInt ∧ p1.toInt ≤ 8205) ∨ (8304 ≤ p1.toInt ∧ p1.toInt ≤ 8591) ∨ (11264 ≤ p1.toInt ∧ p1.toInt ≤ 12271) ∨ (12289 ≤ p1.toInt ∧ p1.toInt ≤ 55295) ∨ (63744 ≤ p1.toInt ∧ p1.toInt ≤ 64975) ∨ (65008 ≤ p1.toInt ∧ p1.toInt ≤ 65533) ∨ (65536 ≤ p1.toInt ∧ p1.toInt ≤ 983039)) then 1 else 0 := by
  have r1 := p1.le_toInt; have r2 := p1.toInt_lt
  unfold g2_14
  simp only [s2_28]
  simp only [Int32.lt_iff_toInt_lt, ← Int32.toInt_inj, show (97 : Int32).toInt = 97 from rfl, show (122 : Int32).toInt = 122 from rfl]
  repeat' split
  all_goals first | rfl | (exfalso; omega)
theorem s2_0 (p1 : Int32) : g2_0 p1 = if ((65 ≤ p1.toInt ∧ p1.toInt ≤ 90) ∨ (97 ≤ p1.toInt ∧ p1.toInt ≤ 122) ∨ (192 ≤ p1.toInt ∧ p1.toInt ≤ 214) ∨ (216 ≤ p1.toInt ∧ p1.toInt ≤ 246) ∨ (248 ≤ p1.toInt ∧ p1.toInt ≤ 767) ∨ (880 ≤ p1.toInt ∧ p1.toInt ≤ 893) ∨ (895 ≤ p1.toInt ∧ p1.toInt ≤ 8191) ∨ (8204 ≤ p1.toInt ∧ p1.toInt ≤ 8205) ∨ (8304 ≤ p1.toInt ∧ p1.toInt ≤ 8591) ∨ (11264 ≤ p1.toInt ∧ p1.toInt ≤ 12271) ∨ (12289 ≤ p1.toInt ∧ p1.toInt ≤ 55295) ∨ (63744 ≤ p1.toInt ∧ p1.toInt ≤ 64975) ∨ (65008 ≤ p1.toInt ∧ p1.toInt ≤ 65533) ∨ (65536 ≤ p1.toInt ∧ p1.toInt ≤ 983039)) then 1 else 0 := by
  have r1 := p1.le_toInt; have r2 := p1.toInt_lt
  unfold g2_0
  simp only [s2_14]
  simp only [Int32.lt_iff_toInt_lt, ← Int32.toInt_inj, show (65 : Int32).toInt = 65 from rfl, show (90 : Int32).toInt = 90 from rfl]
  repeat' split
  all_goals first | rfl | (exfalso; omega)
theorem own_eq (c : Int32) : f1 c = f2 c := (s1_0 c).trans (s2_0 c).symm
theorem own_ix (x : Int32) : 0 ≤ ((x &&& (2147483647 : Int32)) % (30 : Int32)).toInt ∧ ((x &&& (2147483647 : Int32)) % (30 : Int32)).toInt < 30 := by
  have h1 := c_mask x 2147483647 31 (by decide) (by decide)
  have h2 := (c_irem (x &&& 2147483647) 30 30 (by decide)).1 (by omega)
  omega
theorem pn0 : plainFor x = true := by decide +kernel
theorem pd0_0 : parseMethodDescriptor "(I)Z" = some ⟨[.int], some .boolean⟩ := by decide +kernel
theorem ef0 (p1 : Int32) (p2 : Int32) (p3 : Int32) (m : MethodId) : entryFrame m #[(.int p1), (.int p2), (.int p3)] maxLocals = mkF m 0 #[.val (.int p1), .val (.int p2), .val (.int p3), .unset, .unset] [] := by first | (simp [entryFrame, mkF, argsToLocals, Value.category, maxLocals]; done) | rfl
set_option maxRecDepth 65536 in
set_option maxHeartbeats 40000000 in
theorem rm0 (l : Launch) (Z : State) (a0 : Array Value) (hw : ∀ d ∈ tables_1, d.before a0 Z = true) (ws : List Jvm.Cond) (p1 : Int32) (p2 : Int32) (p3 : Int32) (h0 : Heap) (n0 : Nat) (Z0 : n0 ≤ h0.size) :
    JMet l Z x code maxLocals ret ws room_1 #[(.int p1), (.int p2), (.int p3)] h0 (QL n0) := by
  refine Jvm.JW.body #[.val (.int p1), .val (.int p2), .val (.int p3), .unset, .unset] pn0 (ef0 p1 p2 p3) ?_
  intro p e s m below meth c T0 D A F X0 hx hZ hby hml hown hnm hrt hlk e0
  refine A (XS.bipush X0.here hx rfl (hb hby at_0)) ?_
  show D (T0.setTop (mkF m 2 #[.val (.int p1), .val (.int p2), .val (.int p3), .unset, .unset] [(.int (30 : Int32))]))
  refine Adv.newI A X0 hx hZ (aty := .int) (hw _ (List.mem_of_getElem? (i := 0) rfl)) e0 (n := 30) (by decide) 30 (by decide) (by decide) rfl (ad := "[I") (by decide) (by decide) (by decide) (g := (mkF m 2 #[.val (.int p1), .val (.int p2), .val (.int p3), .unset, .unset] [(.int (30 : Int32))])) rfl rfl (hb hby at_2) ?_
  intro T1 h1 b1 q_b1 X1 e1 E1 V_b1 EA_b1
  have g_b1 : n0 ≤ b1 := Nat.le_trans Z0 (Nat.le_of_eq q_b1.symm)
  have Z_1 : n0 ≤ h1.size := Nat.le_trans Z0 E1.1
  show D (T1.setTop (mkF m 4 #[.val (.int p1), .val (.int p2), .val (.int p3), .unset, .unset] [(.ref b1)]))
  refine A (XS.dup X1.here hx rfl (hb hby at_4) rfl rfl) ?_
  show D (T1.setTop (mkF m 5 #[.val (.int p1), .val (.int p2), .val (.int p3), .unset, .unset] [(.ref b1), (.ref b1)]))
  refine A (XS.iconst X1.here hx rfl (hb hby at_5)) ?_
  show D (T1.setTop (mkF m 6 #[.val (.int p1), .val (.int p2), .val (.int p3), .unset, .unset] [(.int (0 : Int32)), (.ref b1), (.ref b1)]))
  refine A (XS.iconst X1.here hx rfl (hb hby at_6)) ?_
  show D (T1.setTop (mkF m 7 #[.val (.int p1), .val (.int p2), .val (.int p3), .unset, .unset] [(.int (0 : Int32)), (.int (0 : Int32)), (.ref b1), (.ref b1)]))
  refine Adv.stI A X1 hx hZ e1 V_b1 (k := 0) (by decide) (by decide) (g := (mkF m 7 #[.val (.int p1), .val (.int p2), .val (.int p3), .unset, .unset] [(.int (0 : Int32)), (.int (0 : Int32)), (.ref b1), (.ref b1)])) rfl rfl (hb hby at_7) ?_
  intro T2 h2 X2 e2 W2 Vb1_2
  have N2 := Fr.snoc X2 (Fr.nil n0) g_b1
  have Z_2 : n0 ≤ h2.size := Nat.le_trans Z_1 (Nat.le_of_eq W2.size.symm)
  show D (T2.setTop (mkF m 8 #[.val (.int p1), .val (.int p2), .val (.int p3), .unset, .unset] [(.ref b1)]))
  obtain ⟨f3, hf3⟩ : ∃ z : Nat → Int32, z = (fun i => if i = 0 then (0 : Int32) else (fun _ => 0) i) := ⟨_, rfl⟩
  rw [← hf3] at Vb1_2
  refine A (XS.dup X2.here hx rfl (hb hby at_8) rfl rfl) ?_
  show D (T2.setTop (mkF m 9 #[.val (.int p1), .val (.int p2), .val (.int p3), .unset, .unset] [(.ref b1), (.ref b1)]))
  refine A (XS.iconst X2.here hx rfl (hb hby at_9)) ?_
  show D (T2.setTop (mkF m 10 #[.val (.int p1), .val (.int p2), .val (.int p3), .unset, .unset] [(.int (1 : Int32)), (.ref b1), (.ref b1)]))
  refine A (XS.bipush X2.here hx rfl (hb hby at_10)) ?_
  show D (T2.setTop (mkF m 12 #[.val (.int p1), .val (.int p2), .val (.int p3), .unset, .unset] [(.int (65 : Int32)), (.int (1 : Int32)), (.ref b1), (.ref b1)]))
  refine Adv.stI A X2 hx hZ e2 Vb1_2 (k := 1) (by decide) (by decide) (g := (mkF m 12 #[.val (.int p1), .val (.int p2), .val (.int p3), .unset, .unset] [(.int (65 : Int32)), (.int (1 : Int32)), (.ref b1), (.ref b1)])) rfl rfl (hb hby at_12) ?_
  intro T4 h4 X4 e4 W4 Vb1_4
  have N4 := Fr.snoc X4 N2 g_b1
  have Z_4 : n0 ≤ h4.size := Nat.le_trans Z_2 (Nat.le_of_eq W4.size.symm)
  show D (T4.setTop (mkF m 13 #[.val (.int p1), .val (.int p2), .val (.int p3), .unset, .unset] [(.ref b1)]))
  obtain ⟨f5, hf5⟩ : ∃ z : Nat → Int32, z = (fun i => if i = 1 then (65 : Int32) else f3 i) := ⟨_, rfl⟩
  rw [← hf5] at Vb1_4
  refine A (XS.dup X4.here hx rfl (hb hby at_13) rfl rfl) ?_
  show D (T4.setTop (mkF m 14 #[.val (.int p1), .val (.int p2), .val (.int p3), .unset, .unset] [(.ref b1), (.ref b1)]))
  refine A (XS.iconst X4.here hx rfl (hb hby at_14)) ?_
  show D (T4.setTop (mkF m 15 #[.val (.int p1), .val (.int p2), .val (.int p3), .unset, .unset] [(.int (2 : Int32)), (.ref b1), (.ref b1)]))
  refine A (XS.bipush X4.here hx rfl (hb hby at_15)) ?_
  show D (T4.setTop (mkF m 17 #[.val (.int p1), .val (.int p2), .val (.int p3), .unset, .unset] [(.int (90 : Int32)), (.int (2 : Int32)), (.ref b1), (.ref b1)]))
  refine Adv.stI A X4 hx hZ e4 Vb1_4 (k := 2) (by decide) (by decide) (g := (mkF m 17 #[.val (.int p1), .val (.int p2), .val (.int p3), .unset, .unset] [(.int (90 : Int32)), (.int (2 : Int32)), (.ref b1), (.ref b1)])) rfl rfl (hb hby at_17) ?_
  intro T6 h6 X6 e6 W6 Vb1_6
  have N6 := Fr.snoc X6 N4 g_b1
  have Z_6 : n0 ≤ h6.size := Nat.le_trans Z_4 (Nat.le_of_eq W6.size.symm)
  show D (T6.setTop (mkF m 18 #[.val (.int p1), .val (.int p2), .val (.int p3), .unset, .unset] [(.ref b1)]))
  obtain ⟨f7, hf7⟩ : ∃ z : Nat → Int32, z = (fun i => if i = 2 then (90 : Int32) else f5 i) := ⟨_, rfl⟩
  rw [← hf7] at Vb1_6
  refine A (XS.dup X6.here hx rfl (hb hby at_18) rfl rfl) ?_
  show D (T6.setTop (mkF m 19 #[.val (.int p1), .val (.int p2), .val (.int p3), .unset, .unset] [(.ref b1), (.ref b1)]))
  refine A (XS.iconst X6.here hx rfl (hb hby at_19)) ?_
  show D (T6.setTop (mkF m 20 #[.val (.int p1), .val (.int p2), .val (.int p3), .unset, .unset] [(.int (3 : Int32)), (.ref b1), (.ref b1)]))
  refine A (XS.bipush X6.here hx rfl (hb hby at_20)) ?_
  show D (T6.setTop (mkF m 22 #[.val (.int p1), .val (.int p2), .val (.int p3), .unset, .unset] [(.int (97 : Int32)), (.int (3 : Int32)), (.ref b1), (.ref b1)]))
  refine Adv.stI A X6 hx hZ e6 Vb1_6 (k := 3) (by decide) (by decide) (g := (mkF m 22 #[.val (.int p1), .val (.int p2), .val (.int p3), .unset, .unset] [(.int (97 : Int32)), (.int (3 : Int32)), (.ref b1), (.ref b1)])) rfl rfl (hb hby at_22) ?_
  intro T8 h8 X8 e8 W8 Vb1_8
  have N8 := Fr.snoc X8 N6 g_b1
  have Z_8 : n0 ≤ h8.size := Nat.le_trans Z_6 (Nat.le_of_eq W8.size.symm)
  show D (T8.setTop (mkF m 23 #[.val (.int p1), .val (.int p2), .val (.int p3), .unset, .unset] [(.ref b1)]))
  obtain ⟨f9, hf9⟩ : ∃ z : Nat → Int32, z = (fun i => if i = 3 then (97 : Int32) else f7 i) := ⟨_, rfl⟩
  rw [← hf9] at Vb1_8
  refine A (XS.dup X8.here hx rfl (hb hby at_23) rfl rfl) ?_
  show D (T8.setTop (mkF m 24 #[.val (.int p1), .val (.int p2), .val (.int p3), .unset, .unset] [(.ref b1), (.ref b1)]))
  refine A (XS.iconst X8.here hx rfl (hb hby at_24)) ?_
  show D (T8.setTop (mkF m 25 #[.val (.int p1), .val (.int p2), .val (.int p3), .unset, .unset] [(.int (4 : Int32)), (.ref b1), (.ref b1)]))
  refine A (XS.bipush X8.here hx rfl (hb hby at_25)) ?_
  show D (T8.setTop (mkF m 27 #[.val (.int p1), .val (.int p2), .val (.int p3), .unset, .unset] [(.int (122 : Int32)), (.int (4 : Int32)), (.ref b1), (.ref b1)]))
  refine Adv.stI A X8 hx hZ e8 Vb1_8 (k := 4) (by decide) (by decide) (g := (mkF m 27 #[.val (.int p1), .val (.int p2), .val (.int p3), .unset, .unset] [(.int (122 : Int32)), (.int (4 : Int32)), (.ref b1), (.ref b1)])) rfl rfl (hb hby at_27) ?_
  intro T10 h10 X10 e10 W10 Vb1_10
  have N10 := Fr.snoc X10 N8 g_b1
  have Z_10 : n0 ≤ h10.size := Nat.le_trans Z_8 (Nat.le_of_eq W10.size.symm)
  show D (T10.setTop (mkF m 28 #[.val (.int p1), .val (.int p2), .val (.int p3), .unset, .unset] [(.ref b1)]))
  obtain ⟨f11, hf11⟩ : ∃ z : Nat → Int32, z = (fun i => if i = 4 then (122 : Int32) else f9 i) := ⟨_, rfl⟩
  rw [← hf11] at Vb1_10
  refine A (XS.dup X10.here hx rfl (hb hby at_28) rfl rfl) ?_
  show D (T10.setTop (mkF m 29 #[.val (.int p1), .val (.int p2), .val (.int p3), .unset, .unset] [(.ref b1), (.ref b1)]))
  refine A (XS.iconst X10.here hx rfl (hb hby at_29)) ?_
  show D (T10.setTop (mkF m 30 #[.val (.int p1), .val (.int p2), .val (.int p3), .unset, .unset] [(.int (5 : Int32)), (.ref b1), (.ref b1)]))
  refine A (XS.sipush X10.here hx rfl (hb hby at_30)) ?_
  show D (T10.setTop (mkF m 33 #[.val (.int p1), .val (.int p2), .val (.int p3), .unset, .unset] [(.int (128 : Int32)), (.int (5 : Int32)), (.ref b1), (.ref b1)]))
  refine Adv.stI A X10 hx hZ e10 Vb1_10 (k := 5) (by decide) (by decide) (g := (mkF m 33 #[.val (.int p1), .val (.int p2), .val (.int p3), .unset, .unset] [(.int (128 : Int32)), (.int (5 : Int32)), (.ref b1), (.ref b1)])) rfl rfl (hb hby at_33) ?_
  intro T12 h12 X12 e12 W12 Vb1_12
  have N12 := Fr.snoc X12 N10 g_b1
  have Z_12 : n0 ≤ h12.size := Nat.le_trans Z_10 (Nat.le_of_eq W12.size.symm)
  show D (T12.setTop (mkF m 34 #[.val (.int p1), .val (.int p2), .val (.int p3), .unset, .unset] [(.ref b1)]))
  obtain ⟨f13, hf13⟩ : ∃ z : Nat → Int32, z = (fun i => if i = 5 then (128 : Int32) else f11 i) := ⟨_, rfl⟩
  rw [← hf13] at Vb1_12
  refine A (XS.dup X12.here hx rfl (hb hby at_34) rfl rfl) ?_
  show D (T12.setTop (mkF m 35 #[.val (.int p1), .val (.int p2), .val (.int p3), .unset, .unset] [(.ref b1), (.ref b1)]))
  refine A (XS.bipush X12.here hx rfl (hb hby at_35)) ?_
  show D (T12.setTop (mkF m 37 #[.val (.int p1), .val (.int p2), .val (.int p3), .unset, .unset] [(.int (6 : Int32)), (.ref b1), (.ref b1)]))
  refine A (XS.sipush X12.here hx rfl (hb hby at_37)) ?_
  show D (T12.setTop (mkF m 40 #[.val (.int p1), .val (.int p2), .val (.int p3), .unset, .unset] [(.int (192 : Int32)), (.int (6 : Int32)), (.ref b1), (.ref b1)]))
  refine Adv.stI A X12 hx hZ e12 Vb1_12 (k := 6) (by decide) (by decide) (g := (mkF m 40 #[.val (.int p1), .val (.int p2), .val (.int p3), .unset, .unset] [(.int (192 : Int32)), (.int (6 : Int32)), (.ref b1), (.ref b1)])) rfl rfl (hb hby at_40) ?_
  intro T14 h14 X14 e14 W14 Vb1_14
  have N14 := Fr.snoc X14 N12 g_b1
  have Z_14 : n0 ≤ h14.size := Nat.le_trans Z_12 (Nat.le_of_eq W14.size.symm)
  show D (T14.setTop (mkF m 41 #[.val (.int p1), .val (.int p2), .val (.int p3), .unset, .unset] [(.ref b1)]))
  obtain ⟨f15, hf15⟩ : ∃ z : Nat → Int32, z = (fun i => if i = 6 then (192 : Int32) else f13 i) := ⟨_, rfl⟩
  rw [← hf15] at Vb1_14
  refine A (XS.dup X14.here hx rfl (hb hby at_41) rfl rfl) ?_
  show D (T14.setTop (mkF m 42 #[.val (.int p1), .val (.int p2), .val (.int p3), .unset, .unset] [(.ref b1), (.ref b1)]))
  refine A (XS.bipush X14.here hx rfl (hb hby at_42)) ?_
  show D (T14.setTop (mkF m 44 #[.val (.int p1), .val (.int p2), .val (.int p3), .unset, .unset] [(.int (7 : Int32)), (.ref b1), (.ref b1)]))
  refine A (XS.sipush X14.here hx rfl (hb hby at_44)) ?_
  show D (T14.setTop (mkF m 47 #[.val (.int p1), .val (.int p2), .val (.int p3), .unset, .unset] [(.int (215 : Int32)), (.int (7 : Int32)), (.ref b1), (.ref b1)]))
  refine Adv.stI A X14 hx hZ e14 Vb1_14 (k := 7) (by decide) (by decide) (g := (mkF m 47 #[.val (.int p1), .val (.int p2), .val (.int p3), .unset, .unset] [(.int (215 : Int32)), (.int (7 : Int32)), (.ref b1), (.ref b1)])) rfl rfl (hb hby at_47) ?_
  intro T16 h16 X16 e16 W16 Vb1_16
  have N16 := Fr.snoc X16 N14 g_b1
  have Z_16 : n0 ≤ h16.size := Nat.le_trans Z_14 (Nat.le_of_eq W16.size.symm)
  show D (T16.setTop (mkF m 48 #[.val (.int p1), .val (.int p2), .val (.int p3), .unset, .unset] [(.ref b1)]))
  obtain ⟨f17, hf17⟩ : ∃ z : Nat → Int32, z = (fun i => if i = 7 then (215 : Int32) else f15 i) := ⟨_, rfl⟩
  rw [← hf17] at Vb1_16
  refine A (XS.dup X16.here hx rfl (hb hby at_48) rfl rfl) ?_
  show D (T16.setTop (mkF m 49 #[.val (.int p1), .val (.int p2), .val (.int p3), .unset, .unset] [(.ref b1), (.ref b1)]))
  refine A (XS.bipush X16.here hx rfl (hb hby at_49)) ?_
  show D (T16.setTop (mkF m 51 #[.val (.int p1), .val (.int p2), .val (.int p3), .unset, .unset] [(.int (8 : Int32)), (.ref b1), (.ref b1)]))
  refine A (XS.sipush X16.here hx rfl (hb hby at_51)) ?_
  show D (T16.setTop (mkF m 54 #[.val (.int p1), .val (.int p2), .val (.int p3), .unset, .unset] [(.int (247 : Int32)), (.int (8 : Int32)), (.ref b1), (.ref b1)]))
  refine Adv.stI A X16 hx hZ e16 Vb1_16 (k := 8) (by decide) (by decide) (g := (mkF m 54 #[.val (.int p1), .val (.int p2), .val (.int p3), .unset, .unset] [(.int (247 : Int32)), (.int (8 : Int32)), (.ref b1), (.ref b1)])) rfl rfl (hb hby at_54) ?_
  intro T18 h18 X18 e18 W18 Vb1_18
  have N18 := Fr.snoc X18 N16 g_b1
  have Z_18 : n0 ≤ h18.size := Nat.le_trans Z_16 (Nat.le_of_eq W18.size.symm)
  show D (T18.setTop (mkF m 55 #[.val (.int p1), .val (.int p2), .val (.int p3), .unset, .unset] [(.ref b1)]))
  obtain ⟨f19, hf19⟩ : ∃ z : Nat → Int32, z = (fun i => if i = 8 then (247 : Int32) else f17 i) := ⟨_, rfl⟩
  rw [← hf19] at Vb1_18
  refine A (XS.dup X18.here hx rfl (hb hby at_55) rfl rfl) ?_
  show D (T18.setTop (mkF m 56 #[.val (.int p1), .val (.int p2), .val (.int p3), .unset, .unset] [(.ref b1), (.ref b1)]))
  refine A (XS.bipush X18.here hx rfl (hb hby at_56)) ?_
  show D (T18.setTop (mkF m 58 #[.val (.int p1), .val (.int p2), .val (.int p3), .unset, .unset] [(.int (9 : Int32)), (.ref b1), (.ref b1)]))
  refine A (XS.sipush X18.here hx rfl (hb hby at_58)) ?_
  show D (T18.setTop (mkF m 61 #[.val (.int p1), .val (.int p2), .val (.int p3), .unset, .unset] [(.int (768 : Int32)), (.int (9 : Int32)), (.ref b1), (.ref b1)]))
  refine Adv.stI A X18 hx hZ e18 Vb1_18 (k := 9) (by decide) (by decide) (g := (mkF m 61 #[.val (.int p1), .val (.int p2), .val (.int p3), .unset, .unset] [(.int (768 : Int32)), (.int (9 : Int32)), (.ref b1), (.ref b1)])) rfl rfl (hb hby at_61) ?_
  intro T20 h20 X20 e20 W20 Vb1_20
  have N20 := Fr.snoc X20 N18 g_b1
  have Z_20 : n0 ≤ h20.size := Nat.le_trans Z_18 (Nat.le_of_eq W20.size.symm)
  show D (T20.setTop (mkF m 62 #[.val (.int p1), .val (.int p2), .val (.int p3), .unset, .unset] [(.ref b1)]))
  obtain ⟨f21, hf21⟩ : ∃ z : Nat → Int32, z = (fun i => if i = 9 then (768 : Int32) else f19 i) := ⟨_, rfl⟩
  rw [← hf21] at Vb1_20
  refine A (XS.dup X20.here hx rfl (hb hby at_62) rfl rfl) ?_
  show D (T20.setTop (mkF m 63 #[.val (.int p1), .val (.int p2), .val (.int p3), .unset, .unset] [(.ref b1), (.ref b1)]))
  refine A (XS.bipush X20.here hx rfl (hb hby at_63)) ?_
  show D (T20.setTop (mkF m 65 #[.val (.int p1), .val (.int p2), .val (.int p3), .unset, .unset] [(.int (10 : Int32)), (.ref b1), (.ref b1)]))
  refine A (XS.sipush X20.here hx rfl (hb hby at_65)) ?_
  show D (T20.setTop (mkF m 68 #[.val (.int p1), .val (.int p2), .val (.int p3), .unset, .unset] [(.int (880 : Int32)), (.int (10 : Int32)), (.ref b1), (.ref b1)]))
  refine Adv.stI A X20 hx hZ e20 Vb1_20 (k := 10) (by decide) (by decide) (g := (mkF m 68 #[.val (.int p1), .val (.int p2), .val (.int p3), .unset, .unset] [(.int (880 : Int32)), (.int (10 : Int32)), (.ref b1), (.ref b1)])) rfl rfl (hb hby at_68) ?_
  intro T22 h22 X22 e22 W22 Vb1_22
  have N22 := Fr.snoc X22 N20 g_b1
  have Z_22 : n0 ≤ h22.size := Nat.le_trans Z_20 (Nat.le_of_eq W22.size.symm)
  show D (T22.setTop (mkF m 69 #[.val (.int p1), .val (.int p2), .val (.int p3), .unset, .unset] [(.ref b1)]))
  obtain ⟨f23, hf23⟩ : ∃ z : Nat → Int32, z = (fun i => if i = 10 then (880 : Int32) else f21 i) := ⟨_, rfl⟩
  rw [← hf23] at Vb1_22
  refine A (XS.dup X22.here hx rfl (hb hby at_69) rfl rfl) ?_
  show D (T22.setTop (mkF m 70 #[.val (.int p1), .val (.int p2), .val (.int p3), .unset, .unset] [(.ref b1), (.ref b1)]))
  refine A (XS.bipush X22.here hx rfl (hb hby at_70)) ?_
  show D (T22.setTop (mkF m 72 #[.val (.int p1), .val (.int p2), .val (.int p3), .unset, .unset] [(.int (11 : Int32)), (.ref b1), (.ref b1)]))
  refine A (XS.sipush X22.here hx rfl (hb hby at_72)) ?_
  show D (T22.setTop (mkF m 75 #[.val (.int p1), .val (.int p2), .val (.int p3), .unset, .unset] [(.int (894 : Int32)), (.int (11 : Int32)), (.ref b1), (.ref b1)]))
  refine Adv.stI A X22 hx hZ e22 Vb1_22 (k := 11) (by decide) (by decide) (g := (mkF m 75 #[.val (.int p1), .val (.int p2), .val (.int p3), .unset, .unset] [(.int (894 : Int32)), (.int (11 : Int32)), (.ref b1), (.ref b1)])) rfl rfl (hb hby at_75) ?_
  intro T24 h24 X24 e24 W24 Vb1_24
  have N24 := Fr.snoc X24 N22 g_b1
  have Z_24 : n0 ≤ h24.size := Nat.le_trans Z_22 (Nat.le_of_eq W24.size.symm)
  show D (T24.setTop (mkF m 76 #[.val (.int p1), .val (.int p2), .val (.int p3), .unset, .unset] [(.ref b1)]))
  obtain ⟨f25, hf25⟩ : ∃ z : Nat → Int32, z = (fun i => if i = 11 then (894 : Int32) else f23 i) := ⟨_, rfl⟩
  rw [← hf25] at Vb1_24
  refine A (XS.dup X24.here hx rfl (hb hby at_76) rfl rfl) ?_
  show D (T24.setTop (mkF m 77 #[.val (.int p1), .val (.int p2), .val (.int p3), .unset, .unset] [(.ref b1), (.ref b1)]))
  refine A (XS.bipush X24.here hx rfl (hb hby at_77)) ?_
  show D (T24.setTop (mkF m 79 #[.val (.int p1), .val (.int p2), .val (.int p3), .unset, .unset] [(.int (12 : Int32)), (.ref b1), (.ref b1)]))
  refine A (XS.sipush X24.here hx rfl (hb hby at_79)) ?_
  show D (T24.setTop (mkF m 82 #[.val (.int p1), .val (.int p2), .val (.int p3), .unset, .unset] [(.int (8192 : Int32)), (.int (12 : Int32)), (.ref b1), (.ref b1)]))
  refine Adv.stI A X24 hx hZ e24 Vb1_24 (k := 12) (by decide) (by decide) (g := (mkF m 82 #[.val (.int p1), .val (.int p2), .val (.int p3), .unset, .unset] [(.int (8192 : Int32)), (.int (12 : Int32)), (.ref b1), (.ref b1)])) rfl rfl (hb hby at_82) ?_
  intro T26 h26 X26 e26 W26 Vb1_26
  have N26 := Fr.snoc X26 N24 g_b1
  have Z_26 : n0 ≤ h26.size := Nat.le_trans Z_24 (Nat.le_of_eq W26.size.symm)
  show D (T26.setTop (mkF m 83 #[.val (.int p1), .val (.int p2), .val (.int p3), .unset, .unset] [(.ref b1)]))
  obtain ⟨f27, hf27⟩ : ∃ z : Nat → Int32, z = (fun i => if i = 12 then (8192 : Int32) else f25 i) := ⟨_, rfl⟩
  rw [← hf27] at Vb1_26
  refine A (XS.dup X26.here hx rfl (hb hby at_83) rfl rfl) ?_
  show D (T26.setTop (mkF m 84 #[.val (.int p1), .val (.int p2), .val (.int p3), .unset, .unset] [(.ref b1), (.ref b1)]))
  refine A (XS.bipush X26.here hx rfl (hb hby at_84)) ?_
  show D (T26.setTop (mkF m 86 #[.val (.int p1), .val (.int p2), .val (.int p3), .unset, .unset] [(.int (13 : Int32)), (.ref b1), (.ref b1)]))
  refine A (XS.sipush X26.here hx rfl (hb hby at_86)) ?_
  show D (T26.setTop (mkF m 89 #[.val (.int p1), .val (.int p2), .val (.int p3), .unset, .unset] [(.int (8204 : Int32)), (.int (13 : Int32)), (.ref b1), (.ref b1)]))
  refine Adv.stI A X26 hx hZ e26 Vb1_26 (k := 13) (by decide) (by decide) (g := (mkF m 89 #[.val (.int p1), .val (.int p2), .val (.int p3), .unset, .unset] [(.int (8204 : Int32)), (.int (13 : Int32)), (.ref b1), (.ref b1)])) rfl rfl (hb hby at_89) ?_
  intro T28 h28 X28 e28 W28 Vb1_28
  have N28 := Fr.snoc X28 N26 g_b1
  have Z_28 : n0 ≤ h28.size := Nat.le_trans Z_26 (Nat.le_of_eq W28.size.symm)
  show D (T28.setTop (mkF m 90 #[.val (.int p1), .val (.int p2), .val (.int p3), .unset, .unset] [(.ref b1)]))
  obtain ⟨f29, hf29⟩ : ∃ z : Nat → Int32, z = (fun i => if i = 13 then (8204 : Int32) else f27 i) := ⟨_, rfl⟩
  rw [← hf29] at Vb1_28
  refine A (XS.dup X28.here hx rfl (hb hby at_90) rfl rfl) ?_
  show D (T28.setTop (mkF m 91 #[.val (.int p1), .val (.int p2), .val (.int p3), .unset, .unset] [(.ref b1), (.ref b1)]))
  refine A (XS.bipush X28.here hx rfl (hb hby at_91)) ?_
  show D (T28.setTop (mkF m 93 #[.val (.int p1), .val (.int p2), .val (.int p3), .unset, .unset] [(.int (14 : Int32)), (.ref b1), (.ref b1)]))
  refine A (XS.sipush X28.here hx rfl (hb hby at_93)) ?_
  show D (T28.setTop (mkF m 96 #[.val (.int p1), .val (.int p2), .val (.int p3), .unset, .unset] [(.int (8206 : Int32)), (.int (14 : Int32)), (.ref b1), (.ref b1)]))
  refine Adv.stI A X28 hx hZ e28 Vb1_28 (k := 14) (by decide) (by decide) (g := (mkF m 96 #[.val (.int p1), .val (.int p2), .val (.int p3), .unset, .unset] [(.int (8206 : Int32)), (.int (14 : Int32)), (.ref b1), (.ref b1)])) rfl rfl (hb hby at_96) ?_
  intro T30 h30 X30 e30 W30 Vb1_30
  have N30 := Fr.snoc X30 N28 g_b1
  have Z_30 : n0 ≤ h30.size := Nat.le_trans Z_28 (Nat.le_of_eq W30.size.symm)
  show D (T30.setTop (mkF m 97 #[.val (.int p1), .val (.int p2), .val (.int p3), .unset, .unset] [(.ref b1)]))
  obtain ⟨f31, hf31⟩ : ∃ z : Nat → Int32, z = (fun i => if i = 14 then (8206 : Int32) else f29 i) := ⟨_, rfl⟩
  rw [← hf31] at Vb1_30
  refine A (XS.dup X30.here hx rfl (hb hby at_97) rfl rfl) ?_
  show D (T30.setTop (mkF m 98 #[.val (.int p1), .val (.int p2), .val (.int p3), .unset, .unset] [(.ref b1), (.ref b1)]))
  refine A (XS.bipush X30.here hx rfl (hb hby at_98)) ?_
  show D (T30.setTop (mkF m 100 #[.val (.int p1), .val (.int p2), .val (.int p3), .unset, .unset] [(.int (15 : Int32)), (.ref b1), (.ref b1)]))
  refine A (XS.sipush X30.here hx rfl (hb hby at_100)) ?_
  show D (T30.setTop (mkF m 103 #[.val (.int p1), .val (.int p2), .val (.int p3), .unset, .unset] [(.int (8304 : Int32)), (.int (15 : Int32)), (.ref b1), (.ref b1)]))
  refine Adv.stI A X30 hx hZ e30 Vb1_30 (k := 15) (by decide) (by decide) (g := (mkF m 103 #[.val (.int p1), .val (.int p2), .val (.int p3), .unset, .unset] [(.int (8304 : Int32)), (.int (15 : Int32)), (.ref b1), (.ref b1)])) rfl rfl (hb hby at_103) ?_
  intro T32 h32 X32 e32 W32 Vb1_32
  have N32 := Fr.snoc X32 N30 g_b1
  have Z_32 : n0 ≤ h32.size := Nat.le_trans Z_30 (Nat.le_of_eq W32.size.symm)
  show D (T32.setTop (mkF m 104 #[.val (.int p1), .val (.int p2), .val (.int p3), .unset, .unset] [(.ref b1)]))
  obtain ⟨f33, hf33⟩ : ∃ z : Nat → Int32, z = (fun i => if i = 15 then (8304 : Int32) else f31 i) := ⟨_, rfl⟩
  rw [← hf33] at Vb1_32
  refine A (XS.dup X32.here hx rfl (hb hby at_104) rfl rfl) ?_
  show D (T32.setTop (mkF m 105 #[.val (.int p1), .val (.int p2), .val (.int p3), .unset, .unset] [(.ref b1), (.ref b1)]))
  refine A (XS.bipush X32.here hx rfl (hb hby at_105)) ?_
  show D (T32.setTop (mkF m 107 #[.val (.int p1), .val (.int p2), .val (.int p3), .unset, .unset] [(.int (16 : Int32)), (.ref b1), (.ref b1)]))
  refine A (XS.sipush X32.here hx rfl (hb hby at_107)) ?_
  show D (T32.setTop (mkF m 110 #[.val (.int p1), .val (.int p2), .val (.int p3), .unset, .unset] [(.int (8592 : Int32)), (.int (16 : Int32)), (.ref b1), (.ref b1)]))
  refine Adv.stI A X32 hx hZ e32 Vb1_32 (k := 16) (by decide) (by decide) (g := (mkF m 110 #[.val (.int p1), .val (.int p2), .val (.int p3), .unset, .unset] [(.int (8592 : Int32)), (.int (16 : Int32)), (.ref b1), (.ref b1)])) rfl rfl (hb hby at_110) ?_
  intro T34 h34 X34 e34 W34 Vb1_34
  have N34 := Fr.snoc X34 N32 g_b1
  have Z_34 : n0 ≤ h34.size := Nat.le_trans Z_32 (Nat.le_of_eq W34.size.symm)
  show D (T34.setTop (mkF m 111 #[.val (.int p1), .val (.int p2), .val (.int p3), .unset, .unset] [(.ref b1)]))
  obtain ⟨f35, hf35⟩ : ∃ z : Nat → Int32, z = (fun i => if i = 16 then (8592 : Int32) else f33 i) := ⟨_, rfl⟩
  rw [← hf35] at Vb1_34
  refine A (XS.dup X34.here hx rfl (hb hby at_111) rfl rfl) ?_
  show D (T34.setTop (mkF m 112 #[.val (.int p1), .val (.int p2), .val (.int p3), .unset, .unset] [(.ref b1), (.ref b1)]))
  refine A (XS.bipush X34.here hx rfl (hb hby at_112)) ?_
  show D (T34.setTop (mkF m 114 #[.val (.int p1), .val (.int p2), .val (.int p3), .unset, .unset] [(.int (17 : Int32)), (.ref b1), (.ref b1)]))
  refine A (XS.sipush X34.here hx rfl (hb hby at_114)) ?_
  show D (T34.setTop (mkF m 117 #[.val (.int p1), .val (.int p2), .val (.int p3), .unset, .unset] [(.int (11264 : Int32)), (.int (17 : Int32)), (.ref b1), (.ref b1)]))
  refine Adv.stI A X34 hx hZ e34 Vb1_34 (k := 17) (by decide) (by decide) (g := (mkF m 117 #[.val (.int p1), .val (.int p2), .val (.int p3), .unset, .unset] [(.int (11264 : Int32)), (.int (17 : Int32)), (.ref b1), (.ref b1)])) rfl rfl (hb hby at_117) ?_
  intro T36 h36 X36 e36 W36 Vb1_36
  have N36 := Fr.snoc X36 N34 g_b1
  have Z_36 : n0 ≤ h36.size := Nat.le_trans Z_34 (Nat.le_of_eq W36.size.symm)
  show D (T36.setTop (mkF m 118 #[.val (.int p1), .val (.int p2), .val (.int p3), .unset, .unset] [(.ref b1)]))
  obtain ⟨f37, hf37⟩ : ∃ z : Nat → Int32, z = (fun i => if i = 17 then (11264 : Int32) else f35 i) := ⟨_, rfl⟩
  rw [← hf37] at Vb1_36
  refine A (XS.dup X36.here hx rfl (hb hby at_118) rfl rfl) ?_
  show D (T36.setTop (mkF m 119 #[.val (.int p1), .val (.int p2), .val (.int p3), .unset, .unset] [(.ref b1), (.ref b1)]))
  refine A (XS.bipush X36.here hx rfl (hb hby at_119)) ?_
  show D (T36.setTop (mkF m 121 #[.val (.int p1), .val (.int p2), .val (.int p3), .unset, .unset] [(.int (18 : Int32)), (.ref b1), (.ref b1)]))
  refine A (XS.sipush X36.here hx rfl (hb hby at_121)) ?_
  show D (T36.setTop (mkF m 124 #[.val (.int p1), .val (.int p2), .val (.int p3), .unset, .unset] [(.int (12272 : Int32)), (.int (18 : Int32)), (.ref b1), (.ref b1)]))
  refine Adv.stI A X36 hx hZ e36 Vb1_36 (k := 18) (by decide) (by decide) (g := (mkF m 124 #[.val (.int p1), .val (.int p2), .val (.int p3), .unset, .unset] [(.int (12272 : Int32)), (.int (18 : Int32)), (.ref b1), (.ref b1)])) rfl rfl (hb hby at_124) ?_
  intro T38 h38 X38 e38 W38 Vb1_38
  have N38 := Fr.snoc X38 N36 g_b1
  have Z_38 : n0 ≤ h38.size := Nat.le_trans Z_36 (Nat.le_of_eq W38.size.symm)
  show D (T38.setTop (mkF m 125 #[.val (.int p1), .val (.int p2), .val (.int p3), .unset, .unset] [(.ref b1)]))
  obtain ⟨f39, hf39⟩ : ∃ z : Nat → Int32, z = (fun i => if i = 18 then (12272 : Int32) else f37 i) := ⟨_, rfl⟩
  rw [← hf39] at Vb1_38
  refine A (XS.dup X38.here hx rfl (hb hby at_125) rfl rfl) ?_
  show D (T38.setTop (mkF m 126 #[.val (.int p1), .val (.int p2), .val (.int p3), .unset, .unset] [(.ref b1), (.ref b1)]))
  refine A (XS.bipush X38.here hx rfl (hb hby at_126)) ?_
  show D (T38.setTop (mkF m 128 #[.val (.int p1), .val (.int p2), .val (.int p3), .unset, .unset] [(.int (19 : Int32)), (.ref b1), (.ref b1)]))
  refine A (XS.sipush X38.here hx rfl (hb hby at_128)) ?_
  show D (T38.setTop (mkF m 131 #[.val (.int p1), .val (.int p2), .val (.int p3), .unset, .unset] [(.int (12289 : Int32)), (.int (19 : Int32)), (.ref b1), (.ref b1)]))
  refine Adv.stI A X38 hx hZ e38 Vb1_38 (k := 19) (by decide) (by decide) (g := (mkF m 131 #[.val (.int p1), .val (.int p2), .val (.int p3), .unset, .unset] [(.int (12289 : Int32)), (.int (19 : Int32)), (.ref b1), (.ref b1)])) rfl rfl (hb hby at_131) ?_
  intro T40 h40 X40 e40 W40 Vb1_40
  have N40 := Fr.snoc X40 N38 g_b1
  have Z_40 : n0 ≤ h40.size := Nat.le_trans Z_38 (Nat.le_of_eq W40.size.symm)
  show D (T40.setTop (mkF m 132 #[.val (.int p1), .val (.int p2), .val (.int p3), .unset, .unset] [(.ref b1)]))
  obtain ⟨f41, hf41⟩ : ∃ z : Nat → Int32, z = (fun i => if i = 19 then (12289 : Int32) else f39 i) := ⟨_, rfl⟩
  rw [← hf41] at Vb1_40
  refine A (XS.dup X40.here hx rfl (hb hby at_132) rfl rfl) ?_
  show D (T40.setTop (mkF m 133 #[.val (.int p1), .val (.int p2), .val (.int p3), .unset, .unset] [(.ref b1), (.ref b1)]))
  refine A (XS.bipush X40.here hx rfl (hb hby at_133)) ?_
  show D (T40.setTop (mkF m 135 #[.val (.int p1), .val (.int p2), .val (.int p3), .unset, .unset] [(.int (20 : Int32)), (.ref b1), (.ref b1)]))
  refine A (X40.ldcInt hx hown (mvT hZ (hw _ (List.mem_of_getElem? (i := 1) rfl))) (g := (mkF m 135 #[.val (.int p1), .val (.int p2), .val (.int p3), .unset, .unset] [(.int (20 : Int32)), (.ref b1), (.ref b1)])) rfl (hb hby at_135) _) ?_
  show D (T40.setTop (mkF m 137 #[.val (.int p1), .val (.int p2), .val (.int p3), .unset, .unset] [(.int (55296 : Int32)), (.int (20 : Int32)), (.ref b1), (.ref b1)]))
  refine Adv.stI A X40 hx hZ e40 Vb1_40 (k := 20) (by decide) (by decide) (g := (mkF m 137 #[.val (.int p1), .val (.int p2), .val (.int p3), .unset, .unset] [(.int (55296 : Int32)), (.int (20 : Int32)), (.ref b1), (.ref b1)])) rfl rfl (hb hby at_137) ?_
  intro T42 h42 X42 e42 W42 Vb1_42
  have N42 := Fr.snoc X42 N40 g_b1
  have Z_42 : n0 ≤ h42.size := Nat.le_trans Z_40 (Nat.le_of_eq W42.size.symm)
  show D (T42.setTop (mkF m 138 #[.val (.int p1), .val (.int p2), .val (.int p3), .unset, .unset] [(.ref b1)]))
  obtain ⟨f43, hf43⟩ : ∃ z : Nat → Int32, z = (fun i => if i = 20 then (55296 : Int32) else f41 i) := ⟨_, rfl⟩
  rw [← hf43] at Vb1_42
  refine A (XS.dup X42.here hx rfl (hb hby at_138) rfl rfl) ?_
  show D (T42.setTop (mkF m 139 #[.val (.int p1), .val (.int p2), .val (.int p3), .unset, .unset] [(.ref b1), (.ref b1)]))
  refine A (XS.bipush X42.here hx rfl (hb hby at_139)) ?_
  show D (T42.setTop (mkF m 141 #[.val (.int p1), .val (.int p2), .val (.int p3), .unset, .unset] [(.int (21 : Int32)), (.ref b1), (.ref b1)]))
  refine A (X42.ldcInt hx hown (mvT hZ (hw _ (List.mem_of_getElem? (i := 2) rfl))) (g := (mkF m 141 #[.val (.int p1), .val (.int p2), .val (.int p3), .unset, .unset] [(.int (21 : Int32)), (.ref b1), (.ref b1)])) rfl (hb hby at_141) _) ?_
  show D (T42.setTop (mkF m 143 #[.val (.int p1), .val (.int p2), .val (.int p3), .unset, .unset] [(.int (63744 : Int32)), (.int (21 : Int32)), (.ref b1), (.ref b1)]))
  refine Adv.stI A X42 hx hZ e42 Vb1_42 (k := 21) (by decide) (by decide) (g := (mkF m 143 #[.val (.int p1), .val (.int p2), .val (.int p3), .unset, .unset] [(.int (63744 : Int32)), (.int (21 : Int32)), (.ref b1), (.ref b1)])) rfl rfl (hb hby at_143) ?_
  intro T44 h44 X44 e44 W44 Vb1_44
  have N44 := Fr.snoc X44 N42 g_b1
  have Z_44 : n0 ≤ h44.size := Nat.le_trans Z_42 (Nat.le_of_eq W44.size.symm)
  show D (T44.setTop (mkF m 144 #[.val (.int p1), .val (.int p2), .val (.int p3), .unset, .unset] [(.ref b1)]))
  obtain ⟨f45, hf45⟩ : ∃ z : Nat → Int32, z = (fun i => if i = 21 then (63744 : Int32) else f43 i) := ⟨_, rfl⟩
  rw [← hf45] at Vb1_44
  refine A (XS.dup X44.here hx rfl (hb hby at_144) rfl rfl) ?_
  show D (T44.setTop (mkF m 145 #[.val (.int p1), .val (.int p2), .val (.int p3), .unset, .unset] [(.ref b1), (.ref b1)]))
  refine A (XS.bipush X44.here hx rfl (hb hby at_145)) ?_
  show D (T44.setTop (mkF m 147 #[.val (.int p1), .val (.int p2), .val (.int p3), .unset, .unset] [(.int (22 : Int32)), (.ref b1), (.ref b1)]))
  refine A (X44.ldcInt hx hown (mvT hZ (hw _ (List.mem_of_getElem? (i := 3) rfl))) (g := (mkF m 147 #[.val (.int p1), .val (.int p2), .val (.int p3), .unset, .unset] [(.int (22 : Int32)), (.ref b1), (.ref b1)])) rfl (hb hby at_147) _) ?_
  show D (T44.setTop (mkF m 149 #[.val (.int p1), .val (.int p2), .val (.int p3), .unset, .unset] [(.int (64976 : Int32)), (.int (22 : Int32)), (.ref b1), (.ref b1)]))
  refine Adv.stI A X44 hx hZ e44 Vb1_44 (k := 22) (by decide) (by decide) (g := (mkF m 149 #[.val (.int p1), .val (.int p2), .val (.int p3), .unset, .unset] [(.int (64976 : Int32)), (.int (22 : Int32)), (.ref b1), (.ref b1)])) rfl rfl (hb hby at_149) ?_
  intro T46 h46 X46 e46 W46 Vb1_46
  have N46 := Fr.snoc X46 N44 g_b1
  have Z_46 : n0 ≤ h46.size := Nat.le_trans Z_44 (Nat.le_of_eq W46.size.symm)
  show D (T46.setTop (mkF m 150 #[.val (.int p1), .val (.int p2), .val (.int p3), .unset, .unset] [(.ref b1)]))
  obtain ⟨f47, hf47⟩ : ∃ z : Nat → Int32, z = (fun i => if i = 22 then (64976 : Int32) else f45 i) := ⟨_, rfl⟩
  rw [← hf47] at Vb1_46
  refine A (XS.dup X46.here hx rfl (hb hby at_150) rfl rfl) ?_
  show D (T46.setTop (mkF m 151 #[.val (.int p1), .val (.int p2), .val (.int p3), .unset, .unset] [(.ref b1), (.ref b1)]))
  refine A (XS.bipush X46.here hx rfl (hb hby at_151)) ?_
  show D (T46.setTop (mkF m 153 #[.val (.int p1), .val (.int p2), .val (.int p3), .unset, .unset] [(.int (23 : Int32)), (.ref b1), (.ref b1)]))
  refine A (X46.ldcInt hx hown (mvT hZ (hw _ (List.mem_of_getElem? (i := 4) rfl))) (g := (mkF m 153 #[.val (.int p1), .val (.int p2), .val (.int p3), .unset, .unset] [(.int (23 : Int32)), (.ref b1), (.ref b1)])) rfl (hb hby at_153) _) ?_
  show D (T46.setTop (mkF m 155 #[.val (.int p1), .val (.int p2), .val (.int p3), .unset, .unset] [(.int (65008 : Int32)), (.int (23 : Int32)), (.ref b1), (.ref b1)]))
  refine Adv.stI A X46 hx hZ e46 Vb1_46 (k := 23) (by decide) (by decide) (g := (mkF m 155 #[.val (.int p1), .val (.int p2), .val (.int p3), .unset, .unset] [(.int (65008 : Int32)), (.int (23 : Int32)), (.ref b1), (.ref b1)])) rfl rfl (hb hby at_155) ?_
  intro T48 h48 X48 e48 W48 Vb1_48
  have N48 := Fr.snoc X48 N46 g_b1
  have Z_48 : n0 ≤ h48.size := Nat.le_trans Z_46 (Nat.le_of_eq W48.size.symm)
  show D (T48.setTop (mkF m 156 #[.val (.int p1), .val (.int p2), .val (.int p3), .unset, .unset] [(.ref b1)]))
  obtain ⟨f49, hf49⟩ : ∃ z : Nat → Int32, z = (fun i => if i = 23 then (65008 : Int32) else f47 i) := ⟨_, rfl⟩
  rw [← hf49] at Vb1_48
  refine A (XS.dup X48.here hx rfl (hb hby at_156) rfl rfl) ?_
  show D (T48.setTop (mkF m 157 #[.val (.int p1), .val (.int p2), .val (.int p3), .unset, .unset] [(.ref b1), (.ref b1)]))
  refine A (XS.bipush X48.here hx rfl (hb hby at_157)) ?_
  show D (T48.setTop (mkF m 159 #[.val (.int p1), .val (.int p2), .val (.int p3), .unset, .unset] [(.int (24 : Int32)), (.ref b1), (.ref b1)]))
  refine A (X48.ldcInt hx hown (mvT hZ (hw _ (List.mem_of_getElem? (i := 5) rfl))) (g := (mkF m 159 #[.val (.int p1), .val (.int p2), .val (.int p3), .unset, .unset] [(.int (24 : Int32)), (.ref b1), (.ref b1)])) rfl (hb hby at_159) _) ?_
  show D (T48.setTop (mkF m 161 #[.val (.int p1), .val (.int p2), .val (.int p3), .unset, .unset] [(.int (65534 : Int32)), (.int (24 : Int32)), (.ref b1), (.ref b1)]))
  refine Adv.stI A X48 hx hZ e48 Vb1_48 (k := 24) (by decide) (by decide) (g := (mkF m 161 #[.val (.int p1), .val (.int p2), .val (.int p3), .unset, .unset] [(.int (65534 : Int32)), (.int (24 : Int32)), (.ref b1), (.ref b1)])) rfl rfl (hb hby at_161) ?_
  intro T50 h50 X50 e50 W50 Vb1_50
  have N50 := Fr.snoc X50 N48 g_b1
  have Z_50 : n0 ≤ h50.size := Nat.le_trans Z_48 (Nat.le_of_eq W50.size.symm)
  show D (T50.setTop (mkF m 162 #[.val (.int p1), .val (.int p2), .val (.int p3), .unset, .unset] [(.ref b1)]))
  obtain ⟨f51, hf51⟩ : ∃ z : Nat → Int32, z = (fun i => if i = 24 then (65534 : Int32) else f49 i) := ⟨_, rfl⟩
  rw [← hf51] at Vb1_50
  refine A (XS.dup X50.here hx rfl (hb hby at_162) rfl rfl) ?_
  show D (T50.setTop (mkF m 163 #[.val (.int p1), .val (.int p2), .val (.int p3), .unset, .unset] [(.ref b1), (.ref b1)]))
  refine A (XS.bipush X50.here hx rfl (hb hby at_163)) ?_
  show D (T50.setTop (mkF m 165 #[.val (.int p1), .val (.int p2), .val (.int p3), .unset, .unset] [(.int (25 : Int32)), (.ref b1), (.ref b1)]))
  refine A (X50.ldcInt hx hown (mvT hZ (hw _ (List.mem_of_getElem? (i := 6) rfl))) (g := (mkF m 165 #[.val (.int p1), .val (.int p2), .val (.int p3), .unset, .unset] [(.int (25 : Int32)), (.ref b1), (.ref b1)])) rfl (hb hby at_165) _) ?_
  show D (T50.setTop (mkF m 167 #[.val (.int p1), .val (.int p2), .val (.int p3), .unset, .unset] [(.int (65536 : Int32)), (.int (25 : Int32)), (.ref b1), (.ref b1)]))
  refine Adv.stI A X50 hx hZ e50 Vb1_50 (k := 25) (by decide) (by decide) (g := (mkF m 167 #[.val (.int p1), .val (.int p2), .val (.int p3), .unset, .unset] [(.int (65536 : Int32)), (.int (25 : Int32)), (.ref b1), (.ref b1)])) rfl rfl (hb hby at_167) ?_
  intro T52 h52 X52 e52 W52 Vb1_52
  have N52 := Fr.snoc X52 N50 g_b1
  have Z_52 : n0 ≤ h52.size := Nat.le_trans Z_50 (Nat.le_of_eq W52.size.symm)
  show D (T52.setTop (mkF m 168 #[.val (.int p1), .val (.int p2), .val (.int p3), .unset, .unset] [(.ref b1)]))
  obtain ⟨f53, hf53⟩ : ∃ z : Nat → Int32, z = (fun i => if i = 25 then (65536 : Int32) else f51 i) := ⟨_, rfl⟩
  rw [← hf53] at Vb1_52
  refine A (XS.dup X52.here hx rfl (hb hby at_168) rfl rfl) ?_
  show D (T52.setTop (mkF m 169 #[.val (.int p1), .val (.int p2), .val (.int p3), .unset, .unset] [(.ref b1), (.ref b1)]))
  refine A (XS.bipush X52.here hx rfl (hb hby at_169)) ?_
  show D (T52.setTop (mkF m 171 #[.val (.int p1), .val (.int p2), .val (.int p3), .unset, .unset] [(.int (26 : Int32)), (.ref b1), (.ref b1)]))
  refine A (X52.ldcInt hx hown (mvT hZ (hw _ (List.mem_of_getElem? (i := 7) rfl))) (g := (mkF m 171 #[.val (.int p1), .val (.int p2), .val (.int p3), .unset, .unset] [(.int (26 : Int32)), (.ref b1), (.ref b1)])) rfl (hb hby at_171) _) ?_
  show D (T52.setTop (mkF m 173 #[.val (.int p1), .val (.int p2), .val (.int p3), .unset, .unset] [(.int (983040 : Int32)), (.int (26 : Int32)), (.ref b1), (.ref b1)]))
  refine Adv.stI A X52 hx hZ e52 Vb1_52 (k := 26) (by decide) (by decide) (g := (mkF m 173 #[.val (.int p1), .val (.int p2), .val (.int p3), .unset, .unset] [(.int (983040 : Int32)), (.int (26 : Int32)), (.ref b1), (.ref b1)])) rfl rfl (hb hby at_173) ?_
  intro T54 h54 X54 e54 W54 Vb1_54
  have N54 := Fr.snoc X54 N52 g_b1
  have Z_54 : n0 ≤ h54.size := Nat.le_trans Z_52 (Nat.le_of_eq W54.size.symm)
  show D (T54.setTop (mkF m 174 #[.val (.int p1), .val (.int p2), .val (.int p3), .unset, .unset] [(.ref b1)]))
  obtain ⟨f55, hf55⟩ : ∃ z : Nat → Int32, z = (fun i => if i = 26 then (983040 : Int32) else f53 i) := ⟨_, rfl⟩
  rw [← hf55] at Vb1_54
  refine A (XS.dup X54.here hx rfl (hb hby at_174) rfl rfl) ?_
  show D (T54.setTop (mkF m 175 #[.val (.int p1), .val (.int p2), .val (.int p3), .unset, .unset] [(.ref b1), (.ref b1)]))
  refine A (XS.bipush X54.here hx rfl (hb hby at_175)) ?_
  show D (T54.setTop (mkF m 177 #[.val (.int p1), .val (.int p2), .val (.int p3), .unset, .unset] [(.int (27 : Int32)), (.ref b1), (.ref b1)]))
  refine A (X54.ldcInt hx hown (mvT hZ (hw _ (List.mem_of_getElem? (i := 8) rfl))) (g := (mkF m 177 #[.val (.int p1), .val (.int p2), .val (.int p3), .unset, .unset] [(.int (27 : Int32)), (.ref b1), (.ref b1)])) rfl (hb hby at_177) _) ?_
  show D (T54.setTop (mkF m 179 #[.val (.int p1), .val (.int p2), .val (.int p3), .unset, .unset] [(.int (1114112 : Int32)), (.int (27 : Int32)), (.ref b1), (.ref b1)]))
  refine Adv.stI A X54 hx hZ e54 Vb1_54 (k := 27) (by decide) (by decide) (g := (mkF m 179 #[.val (.int p1), .val (.int p2), .val (.int p3), .unset, .unset] [(.int (1114112 : Int32)), (.int (27 : Int32)), (.ref b1), (.ref b1)])) rfl rfl (hb hby at_179) ?_
  intro T56 h56 X56 e56 W56 Vb1_56
  have N56 := Fr.snoc X56 N54 g_b1
  have Z_56 : n0 ≤ h56.size := Nat.le_trans Z_54 (Nat.le_of_eq W56.size.symm)
  show D (T56.setTop (mkF m 180 #[.val (.int p1), .val (.int p2), .val (.int p3), .unset, .unset] [(.ref b1)]))
  obtain ⟨f57, hf57⟩ : ∃ z : Nat → Int32, z = (fun i => if i = 27 then (1114112 : Int32) else f55 i) := ⟨_, rfl⟩
  rw [← hf57] at Vb1_56
  refine A (XS.dup X56.here hx rfl (hb hby at_180) rfl rfl) ?_
  show D (T56.setTop (mkF m 181 #[.val (.int p1), .val (.int p2), .val (.int p3), .unset, .unset] [(.ref b1), (.ref b1)]))
  refine A (XS.bipush X56.here hx rfl (hb hby at_181)) ?_
  show D (T56.setTop (mkF m 183 #[.val (.int p1), .val (.int p2), .val (.int p3), .unset, .unset] [(.int (28 : Int32)), (.ref b1), (.ref b1)]))
  refine A (X56.ldcInt hx hown (mvT hZ (hw _ (List.mem_of_getElem? (i := 9) rfl))) (g := (mkF m 183 #[.val (.int p1), .val (.int p2), .val (.int p3), .unset, .unset] [(.int (28 : Int32)), (.ref b1), (.ref b1)])) rfl (hb hby at_183) _) ?_
  show D (T56.setTop (mkF m 185 #[.val (.int p1), .val (.int p2), .val (.int p3), .unset, .unset] [(.int (-2147483648 : Int32)), (.int (28 : Int32)), (.ref b1), (.ref b1)]))
  refine Adv.stI A X56 hx hZ e56 Vb1_56 (k := 28) (by decide) (by decide) (g := (mkF m 185 #[.val (.int p1), .val (.int p2), .val (.int p3), .unset, .unset] [(.int (-2147483648 : Int32)), (.int (28 : Int32)), (.ref b1), (.ref b1)])) rfl rfl (hb hby at_185) ?_
  intro T58 h58 X58 e58 W58 Vb1_58
  have N58 := Fr.snoc X58 N56 g_b1
  have Z_58 : n0 ≤ h58.size := Nat.le_trans Z_56 (Nat.le_of_eq W58.size.symm)
  show D (T58.setTop (mkF m 186 #[.val (.int p1), .val (.int p2), .val (.int p3), .unset, .unset] [(.ref b1)]))
  obtain ⟨f59, hf59⟩ : ∃ z : Nat → Int32, z = (fun i => if i = 28 then (-2147483648 : Int32) else f57 i) := ⟨_, rfl⟩
  rw [← hf59] at Vb1_58
  refine A (XS.dup X58.here hx rfl (hb hby at_186) rfl rfl) ?_
  show D (T58.setTop (mkF m 187 #[.val (.int p1), .val (.int p2), .val (.int p3), .unset, .unset] [(.ref b1), (.ref b1)]))
  refine A (XS.bipush X58.here hx rfl (hb hby at_187)) ?_
  show D (T58.setTop (mkF m 189 #[.val (.int p1), .val (.int p2), .val (.int p3), .unset, .unset] [(.int (29 : Int32)), (.ref b1), (.ref b1)]))
  refine A (X58.ldcInt hx hown (mvT hZ (hw _ (List.mem_of_getElem? (i := 10) rfl))) (g := (mkF m 189 #[.val (.int p1), .val (.int p2), .val (.int p3), .unset, .unset] [(.int (29 : Int32)), (.ref b1), (.ref b1)])) rfl (hb hby at_189) _) ?_
  show D (T58.setTop (mkF m 191 #[.val (.int p1), .val (.int p2), .val (.int p3), .unset, .unset] [(.int (2147483647 : Int32)), (.int (29 : Int32)), (.ref b1), (.ref b1)]))
  refine Adv.stI A X58 hx hZ e58 Vb1_58 (k := 29) (by decide) (by decide) (g := (mkF m 191 #[.val (.int p1), .val (.int p2), .val (.int p3), .unset, .unset] [(.int (2147483647 : Int32)), (.int (29 : Int32)), (.ref b1), (.ref b1)])) rfl rfl (hb hby at_191) ?_
  intro T60 h60 X60 e60 W60 Vb1_60
  have N60 := Fr.snoc X60 N58 g_b1
  have Z_60 : n0 ≤ h60.size := Nat.le_trans Z_58 (Nat.le_of_eq W60.size.symm)
  show D (T60.setTop (mkF m 192 #[.val (.int p1), .val (.int p2), .val (.int p3), .unset, .unset] [(.ref b1)]))
  obtain ⟨f61, hf61⟩ : ∃ z : Nat → Int32, z = (fun i => if i = 29 then (2147483647 : Int32) else f59 i) := ⟨_, rfl⟩
  rw [← hf61] at Vb1_60
  refine A (XS.astoreN X60.here hx rfl (hb hby at_192) rfl rfl (l' := #[.val (.int p1), .val (.int p2), .val (.int p3), .val (.ref b1), .unset]) rfl) ?_
  show D (T60.setTop (mkF m 193 #[.val (.int p1), .val (.int p2), .val (.int p3), .val (.ref b1), .unset] []))
  refine A (XS.aloadN X60.here hx rfl (hb hby at_193) rfl rfl) ?_
  show D (T60.setTop (mkF m 194 #[.val (.int p1), .val (.int p2), .val (.int p3), .val (.ref b1), .unset] [(.ref b1)]))
  refine A (XS.iloadN X60.here hx rfl (hb hby at_194) rfl) ?_
  show D (T60.setTop (mkF m 195 #[.val (.int p1), .val (.int p2), .val (.int p3), .val (.ref b1), .unset] [(.int p2), (.ref b1)]))
  refine A (X60.ldcInt hx hown (mvT hZ (hw _ (List.mem_of_getElem? (i := 10) rfl))) (g := (mkF m 195 #[.val (.int p1), .val (.int p2), .val (.int p3), .val (.ref b1), .unset] [(.int p2), (.ref b1)])) rfl (hb hby at_195) _) ?_
  show D (T60.setTop (mkF m 197 #[.val (.int p1), .val (.int p2), .val (.int p3), .val (.ref b1), .unset] [(.int (2147483647 : Int32)), (.int p2), (.ref b1)]))
  refine A (XS.iand X60.here hx rfl (hb hby at_197) rfl) ?_
  show D (T60.setTop (mkF m 198 #[.val (.int p1), .val (.int p2), .val (.int p3), .val (.ref b1), .unset] [(.int (p2 &&& (2147483647 : Int32))), (.ref b1)]))
  refine A (XS.aloadN X60.here hx rfl (hb hby at_198) rfl rfl) ?_
  show D (T60.setTop (mkF m 199 #[.val (.int p1), .val (.int p2), .val (.int p3), .val (.ref b1), .unset] [(.ref b1), (.int (p2 &&& (2147483647 : Int32))), (.ref b1)]))
  refine Adv.lenI A X60 hx hZ e60 Vb1_60 (g := (mkF m 199 #[.val (.int p1), .val (.int p2), .val (.int p3), .val (.ref b1), .unset] [(.ref b1), (.int (p2 &&& (2147483647 : Int32))), (.ref b1)])) rfl rfl (hb hby at_199) ?_
  show D (T60.setTop (mkF m 200 #[.val (.int p1), .val (.int p2), .val (.int p3), .val (.ref b1), .unset] [(.int (30 : Int32)), (.int (p2 &&& (2147483647 : Int32))), (.ref b1)]))
  refine A (iremM X60 hx rfl (hb hby at_200) rfl (by decide)) ?_
  show D (T60.setTop (mkF m 201 #[.val (.int p1), .val (.int p2), .val (.int p3), .val (.ref b1), .unset] [(.int ((p2 &&& (2147483647 : Int32)) % (30 : Int32))), (.ref b1)]))
  refine Adv.ldI A X60 hx hZ e60 Vb1_60 (k := (((p2 &&& (2147483647 : Int32)) % (30 : Int32))).toInt.toNat) (Int.toNat_of_nonneg (own_ix _).1).symm (by have := own_ix p2; omega) (g := (mkF m 201 #[.val (.int p1), .val (.int p2), .val (.int p3), .val (.ref b1), .unset] [(.int ((p2 &&& (2147483647 : Int32)) % (30 : Int32))), (.ref b1)])) rfl rfl (hb hby at_201) ?_
  show D (T60.setTop (mkF m 202 #[.val (.int p1), .val (.int p2), .val (.int p3), .val (.ref b1), .unset] [(.int (f61 (((p2 &&& (2147483647 : Int32)) % (30 : Int32))).toInt.toNat))]))
  suffices Ky62 : ∀ y62 : Int32, y62 = (f61 (((p2 &&& (2147483647 : Int32)) % (30 : Int32))).toInt.toNat) → D (T60.setTop (mkF m 202 #[.val (.int p1), .val (.int p2), .val (.int p3), .val (.ref b1), .unset] [(.int y62)])) from Ky62 _ rfl
  intro y62 hy62
  refine A (XS.iloadN X60.here hx rfl (hb hby at_202) rfl) ?_
  show D (T60.setTop (mkF m 203 #[.val (.int p1), .val (.int p2), .val (.int p3), .val (.ref b1), .unset] [(.int p3), (.int y62)]))
  refine A (XS.bipush X60.here hx rfl (hb hby at_203)) ?_
  show D (T60.setTop (mkF m 205 #[.val (.int p1), .val (.int p2), .val (.int p3), .val (.ref b1), .unset] [(.int (7 : Int32)), (.int p3), (.int y62)]))
  refine A (XS.iand X60.here hx rfl (hb hby at_205) rfl) ?_
  show D (T60.setTop (mkF m 206 #[.val (.int p1), .val (.int p2), .val (.int p3), .val (.ref b1), .unset] [(.int (p3 &&& (7 : Int32))), (.int y62)]))
  refine A (XS.iconst X60.here hx rfl (hb hby at_206)) ?_
  show D (T60.setTop (mkF m 207 #[.val (.int p1), .val (.int p2), .val (.int p3), .val (.ref b1), .unset] [(.int (3 : Int32)), (.int (p3 &&& (7 : Int32))), (.int y62)]))
  refine A (XS.isub X60.here hx rfl (hb hby at_207) rfl) ?_
  show D (T60.setTop (mkF m 208 #[.val (.int p1), .val (.int p2), .val (.int p3), .val (.ref b1), .unset] [(.int ((p3 &&& (7 : Int32)) - (3 : Int32))), (.int y62)]))
  refine A (XS.iadd X60.here hx rfl (hb hby at_208) rfl) ?_
  show D (T60.setTop (mkF m 209 #[.val (.int p1), .val (.int p2), .val (.int p3), .val (.ref b1), .unset] [(.int (y62 + ((p3 &&& (7 : Int32)) - (3 : Int32))))]))
  refine A (XS.istore X60.here hx rfl (hb hby at_209) rfl (l' := #[.val (.int p1), .val (.int p2), .val (.int p3), .val (.ref b1), .val (.int (y62 + ((p3 &&& (7 : Int32)) - (3 : Int32))))]) rfl) ?_
  show D (T60.setTop (mkF m 211 #[.val (.int p1), .val (.int p2), .val (.int p3), .val (.ref b1), .val (.int (y62 + ((p3 &&& (7 : Int32)) - (3 : Int32))))] []))
  suffices Kx4_211 : ∀ x4_211 : Int32, x4_211 = (y62 + ((p3 &&& (7 : Int32)) - (3 : Int32))) → D (T60.setTop (mkF m 211 #[.val (.int p1), .val (.int p2), .val (.int p3), .val (.ref b1), .val (.int x4_211)] [])) from Kx4_211 _ rfl
  intro x4_211 hx4_211
  refine A (XS.iloadN X60.here hx rfl (hb hby at_211) rfl) ?_
  show D (T60.setTop (mkF m 212 #[.val (.int p1), .val (.int p2), .val (.int p3), .val (.ref b1), .val (.int x4_211)] [(.int p1)]))
  refine Adv.callS A X60 hx hZ hown (hw _ (List.mem_of_getElem? (i := 11) rfl)) (hw _ (List.mem_of_getElem? (i := 12) rfl)) (hw _ (List.mem_of_getElem? (i := 13) rfl)) (hw _ (List.mem_of_getElem? (i := 14) rfl)) e60 (rm1 l Z a0 hw [] p1 h60 n0) 0 (g := (mkF m 212 #[.val (.int p1), .val (.int p2), .val (.int p3), .val (.ref b1), .val (.int x4_211)] [(.int p1)])) rfl (by rw [hml]; rfl) [(.int p1)] [] rfl (lenOf pd0_0 rfl) rfl (by show 2 * 0 + _ ≤ _; exact Nat.le_of_eq rfl) (hb hby at_212) (by decide) (by decide) (by decide) (by decide) (by decide) ?_
  rintro T63 L63 _ X63 ⟨rfl, N63_q, e63⟩
  have N63 := Fr.app N60 N63_q
  show D (T63.setTop (mkF m 215 #[.val (.int p1), .val (.int p2), .val (.int p3), .val (.ref b1), .val (.int x4_211)] [(.int (f1 p1))]))
  refine A (XS.iloadN X63.here hx rfl (hb hby at_215) rfl) ?_
  show D (T63.setTop (mkF m 216 #[.val (.int p1), .val (.int p2), .val (.int p3), .val (.ref b1), .val (.int x4_211)] [(.int p1), (.int (f1 p1))]))
  refine Adv.callS A X63 hx hZ hown (hw _ (List.mem_of_getElem? (i := 15) rfl)) (hw _ (List.mem_of_getElem? (i := 16) rfl)) (hw _ (List.mem_of_getElem? (i := 17) rfl)) (hw _ (List.mem_of_getElem? (i := 18) rfl)) e63 (rm2 l Z a0 hw [] p1 h60 n0) 1 (g := (mkF m 216 #[.val (.int p1), .val (.int p2), .val (.int p3), .val (.ref b1), .val (.int x4_211)] [(.int p1), (.int (f1 p1))])) rfl (by rw [hml]; rfl) [(.int p1)] [(.int (f1 p1))] rfl (lenOf pd0_0 rfl) rfl (by show 2 * 0 + _ ≤ _; exact Nat.le_of_eq rfl) (hb hby at_216) (by decide) (by decide) (by decide) (by decide) (by decide) ?_
  rintro T64 L64 _ X64 ⟨rfl, N64_q, e64⟩
  have N64 := Fr.app N63 N64_q
  show D (T64.setTop (mkF m 219 #[.val (.int p1), .val (.int p2), .val (.int p3), .val (.ref b1), .val (.int x4_211)] [(.int (f2 p1)), (.int (f1 p1))]))
  by_cases c219_65 : (f1 p1) = (f2 p1)
  · refine A (XS.icmpNo X64.here hx rfl (hb hby at_219) rfl (teq c219_65).2) ?_
    show D (T64.setTop (mkF m 222 #[.val (.int p1), .val (.int p2), .val (.int p3), .val (.ref b1), .val (.int x4_211)] []))
    refine A (XS.iload X64.here hx rfl (hb hby at_222) rfl) ?_
    show D (T64.setTop (mkF m 224 #[.val (.int p1), .val (.int p2), .val (.int p3), .val (.ref b1), .val (.int x4_211)] [(.int x4_211)]))
    refine Adv.callS A X64 hx hZ hown (hw _ (List.mem_of_getElem? (i := 11) rfl)) (hw _ (List.mem_of_getElem? (i := 12) rfl)) (hw _ (List.mem_of_getElem? (i := 13) rfl)) (hw _ (List.mem_of_getElem? (i := 14) rfl)) e64 (rm1 l Z a0 hw [] x4_211 h60 n0) 0 (g := (mkF m 224 #[.val (.int p1), .val (.int p2), .val (.int p3), .val (.ref b1), .val (.int x4_211)] [(.int x4_211)])) rfl (by rw [hml]; rfl) [(.int x4_211)] [] rfl (lenOf pd0_0 rfl) rfl (by show 2 * 0 + _ ≤ _; exact Nat.le_of_eq rfl) (hb hby at_224) (by decide) (by decide) (by decide) (by decide) (by decide) ?_
    rintro T66 L66 _ X66 ⟨rfl, N66_q, e66⟩
    have N66 := Fr.app N64 N66_q
    show D (T66.setTop (mkF m 227 #[.val (.int p1), .val (.int p2), .val (.int p3), .val (.ref b1), .val (.int x4_211)] [(.int (f1 x4_211))]))
    refine A (XS.iload X66.here hx rfl (hb hby at_227) rfl) ?_
    show D (T66.setTop (mkF m 229 #[.val (.int p1), .val (.int p2), .val (.int p3), .val (.ref b1), .val (.int x4_211)] [(.int x4_211), (.int (f1 x4_211))]))
    refine Adv.callS A X66 hx hZ hown (hw _ (List.mem_of_getElem? (i := 15) rfl)) (hw _ (List.mem_of_getElem? (i := 16) rfl)) (hw _ (List.mem_of_getElem? (i := 17) rfl)) (hw _ (List.mem_of_getElem? (i := 18) rfl)) e66 (rm2 l Z a0 hw [] x4_211 h60 n0) 1 (g := (mkF m 229 #[.val (.int p1), .val (.int p2), .val (.int p3), .val (.ref b1), .val (.int x4_211)] [(.int x4_211), (.int (f1 x4_211))])) rfl (by rw [hml]; rfl) [(.int x4_211)] [(.int (f1 x4_211))] rfl (lenOf pd0_0 rfl) rfl (by show 2 * 0 + _ ≤ _; exact Nat.le_of_eq rfl) (hb hby at_229) (by decide) (by decide) (by decide) (by decide) (by decide) ?_
    rintro T67 L67 _ X67 ⟨rfl, N67_q, e67⟩
    have N67 := Fr.app N66 N67_q
    show D (T67.setTop (mkF m 232 #[.val (.int p1), .val (.int p2), .val (.int p3), .val (.ref b1), .val (.int x4_211)] [(.int (f2 x4_211)), (.int (f1 x4_211))]))
    suffices Km240_68 : ∀ (v240s0 : Int32), v240s0 = (if (f1 x4_211) = (f2 x4_211) then (1 : Int32) else (0 : Int32)) → D (T67.setTop (mkF m 240 #[.val (.int p1), .val (.int p2), .val (.int p3), .val (.ref b1), .val (.int x4_211)] [(.int v240s0)])) by
      by_cases c232_1 : (f1 x4_211) = (f2 x4_211)
      · refine A (XS.icmpNo X67.here hx rfl (hb hby at_232) rfl (teq c232_1).2) ?_
        show D (T67.setTop (mkF m 235 #[.val (.int p1), .val (.int p2), .val (.int p3), .val (.ref b1), .val (.int x4_211)] []))
        refine A (XS.iconst X67.here hx rfl (hb hby at_235)) ?_
        show D (T67.setTop (mkF m 236 #[.val (.int p1), .val (.int p2), .val (.int p3), .val (.ref b1), .val (.int x4_211)] [(.int (1 : Int32))]))
        refine A (XS.goto X67.here hx rfl (pc0 := 236) (pc' := 240) rfl (hb hby at_236) (by decide) (by decide)) ?_
        show D (T67.setTop (mkF m 240 #[.val (.int p1), .val (.int p2), .val (.int p3), .val (.ref b1), .val (.int x4_211)] [(.int (1 : Int32))]))
        exact Km240_68 _ ((if_pos c232_1)).symm
      · refine A (XS.icmpYes X67.here hx rfl (pc0 := 232) (pc' := 239) rfl (hb hby at_232) rfl (feq c232_1).2 (by decide) (by decide)) ?_
        show D (T67.setTop (mkF m 239 #[.val (.int p1), .val (.int p2), .val (.int p3), .val (.ref b1), .val (.int x4_211)] []))
        refine A (XS.iconst X67.here hx rfl (hb hby at_239)) ?_
        show D (T67.setTop (mkF m 240 #[.val (.int p1), .val (.int p2), .val (.int p3), .val (.ref b1), .val (.int x4_211)] [(.int (0 : Int32))]))
        exact Km240_68 _ ((if_neg c232_1)).symm
    intro v240s0 hv240s0
    show D (T67.setTop (mkF m 240 #[.val (.int p1), .val (.int p2), .val (.int p3), .val (.ref b1), .val (.int x4_211)] [(.int v240s0)]))
    obtain rfl : v240s0 = (1 : Int32) := by
      rw [hv240s0, if_pos (own_eq _)]
    show D (T67.setTop (mkF m 240 #[.val (.int p1), .val (.int p2), .val (.int p3), .val (.ref b1), .val (.int x4_211)] [(.int (1 : Int32))]))
    exact F _ (Jvm.JW.ret X67 hlk (v := some (.int (1 : Int32))) (fun h => by rw [hrt] at h; cases h) (fun fs hr => retOut X67 hx hrt rfl (Or.inl ⟨rfl, Or.inr (Or.inl rfl), _, rfl⟩) (hb hby at_240) hr) rfl ⟨rfl, N67⟩ (by decide) (by decide))
  · refine A (XS.icmpYes X64.here hx rfl (pc0 := 219) (pc' := 239) rfl (hb hby at_219) rfl (feq c219_65).2 (by decide) (by decide)) ?_
    show D (T64.setTop (mkF m 239 #[.val (.int p1), .val (.int p2), .val (.int p3), .val (.ref b1), .val (.int x4_211)] []))
    refine A (XS.iconst X64.here hx rfl (hb hby at_239)) ?_
    show D (T64.setTop (mkF m 240 #[.val (.int p1), .val (.int p2), .val (.int p3), .val (.ref b1), .val (.int x4_211)] [(.int (0 : Int32))]))
    exfalso
    exact absurd (own_eq _) (by assumption)
set_option maxRecDepth 65536 in
set_option maxHeartbeats 40000000 in
theorem comes_1 {Post : Tables → Env → Array Value → State → Outcome → State → Prop} (hpost : ∀ tb e args s v u, (limb_1_1.after args s (.returned v) u = true ∧ limb_1_2.after args s (.returned v) u = true ∧ True) → FrameEnd s (.returned v) u (Jvm.fieldLocs frame_1_writes args s ++ Jvm.arrayLocs frame_1_arrays args s ++ Jvm.staticLocs frame_1_statics s) 16 128 → Post tb e args s (.returned v) u) :
    ArmFor flags0 classFile x code maxLocals ret World_1 tables_1 room_1 Calls_1 rest_1 Pre_1 Post := by
  intro l hfl _ _ p e ha hc hk s m args below hf hA hF happ hP
  obtain ⟨hcalls, hrest, hpre⟩ := hP
  obtain ⟨-, -, -, hnamed, -, -, -, hat⟩ := (Spec.applies_iff hf).mp happ
  obtain ⟨hg, hn⟩ := and_e (Cond.before_iff.mp (show (Jvm.Cond.and given_1 narrow_1).before args s = true from hpre))
  obtain ⟨g0, g1⟩ := and_e hg
  obtain ⟨t1, g2⟩ := and_e g1
  obtain ⟨t2, g3⟩ := and_e g2
  obtain ⟨w0, w1, w2, rfl⟩ : ∃ w0 w1 w2 : Value, args = #[w0, w1, w2] := by
    have hs : args.size = 3 := by simpa [Cond.value, given_1] using g0
    obtain ⟨L⟩ := args
    match L, hs with
    | [w0, w1, w2], _ => exact ⟨w0, w1, w2, rfl⟩
  have hw := fun d (hd : d ∈ tables_1) => atoms_spec (ws := Jvm.Cond.code x code maxLocals ret :: tables_1) hat d (List.mem_cons_of_mem _ hd)
  obtain ⟨i0, q0⟩ := is_v t1
  obtain rfl : w0 = (.int i0) := Option.some.inj q0
  obtain ⟨i1, q1⟩ := is_v t2
  obtain rfl : w1 = (.int i1) := Option.some.inj q1
  obtain ⟨i2, q2⟩ := is_v g3
  obtain rfl : w2 = (.int i2) := Option.some.inj q2
  obtain ⟨n, o, h1, h2, h3, _, L, rfl, ⟨rfl, N⟩, hq⟩ := rm0 l s _ hw tables_1 i0 i1 i2 s.heap s.heap.size (Nat.le_refl _) p e ha hc hk s m _ below hf ((Spec.applies_iff_loose hf).mp happ).1 ⟨rfl, State.Warmed39.refl s, rfl⟩ trivial
  refine ⟨n, _, h1, h2, h3, hpost _ _ _ _ _ _ ⟨Cond.after_iff.mpr rfl, Cond.after_iff.mpr (eq_i res_at (Term.int_eval (1)) rfl), trivial⟩ ⟨hq.1, hq.2.1, (hq.2.2.sift fun y hy => Or.inr (N y hy)).mono (by decide) (by decide)⟩⟩
theorem main_1_1 : Claimed_1_1 := comes_1 fun _ _ _ _ _ _ h hF => ⟨h.1, hF⟩
theorem main_1_2 : Claimed_1_2 := comes_1 fun _ _ _ _ _ _ h hF => ⟨h.2.1, hF⟩
end Jvm.Pilot.@@N@@
namespace Jvm.Pilot.@@N@@
open Jvm Jvm.ClassFile Sem Op Lib Jvm.Free Jvm.Stand Jvm.Pilot.@@N@@.Jvm.D
/-! MADE BY PROGRAM (witnessworld.py) out of the Statement's table words and the real class files: 13 classes; the members and pool entries that the words name. The judged class is class 1, her method 1. -/
namespace start1
open Jvm.ClassFile
def u (s : String) : CpInfo := .utf8 (stringToUtf16 s)
/-- a pool by its gaps: so many unusable entries, then the entry; so many at the end -/
def gap : Nat → List CpInfo → List CpInfo
  | 0, r => r
  | n + 1, r => .unusable :: gap n r
def poolList (es : List (Nat × CpInfo)) (last : Nat) : List CpInfo := es.foldr (fun e r => gap e.1 (e.2 :: r)) (gap last [])
def pool (es : List (Nat × CpInfo)) (last : Nat) : Array CpInfo := ⟨poolList es last⟩
def fileOf (pool : Array CpInfo) (this : Nat) (attrs : Array Attribute := #[]) (ms : Array MethodInfo := #[]) (fl : Nat := 33) (sup : Nat := 0) (ifs : Array Nat := #[]) (fds : Array FieldInfo := #[]) : ClassFile where
  minorVersion := 0
  majorVersion := 65
  constantPool := pool
  accessFlags := fl
  thisClass := this
  superClass := sup
  interfaces := ifs
  fields := fds
  methods := ms
  attributes := attrs
def plain (name : String) (sup : Option ClassId) : Class where
  name := name
  kind := .ordinary
  loader := none
  accessFlags := 33
  super := sup
  interfaces := #[]
  cf := none
  fields := #[]
  methods := #[]
  instanceTypes := #[]
  staticTypes := #[]
  resolved := #[]
  callSites := []
  init := .initialized
  statics := none
  mirror := none

def pool0 : Array CpInfo := pool [(5, u "<init>"), (0, u "()V"), (1, .class_ 10), (1, u "java/lang/Object")] 113

def k0m0 : Method := { name := "<init>", desc := "()V", sig := { parameters := [], returnType := none }, accessFlags := 1, code := none }
/-- java/lang/Object -/
def k0 : Class := { plain "java/lang/Object" none with
  accessFlags := 33
  interfaces := #[]
  cf := some (fileOf pool0 8 #[] #[{ accessFlags := 1, nameIndex := 5, descriptorIndex := 6, attributes := #[] }] 33 0 #[] #[])
  fields := #[]
  methods := #[k0m0]
  instanceTypes := #[]
  staticTypes := #[]
  resolved := Array.replicate 124 none
  statics := none }

def pool1 : Array CpInfo := pool [(2, .class_ 4), (1, u "java/lang/Object"), (0, u "<init>"), (0, u "()V"), (0, .integer 55296), (0, .integer 63744), (0, .integer 64976), (0, .integer 65008), (0, .integer 65534), (0, .integer 65536), (0, .integer 983040), (0, .integer 1114112), (2, .integer 2147483648), (0, .integer 2147483647), (0, .methodref 20 21), (0, .class_ 22), (0, .nameAndType 23 24), (0, u "quoth/rdf/BlankNode"), (0, u "isLetter"), (0, u "(I)Z"), (0, .methodref 26 27), (0, .class_ 28), (0, .nameAndType 29 24), (0, u "quoth/rdf/BlankNodeIsLetterPinLaw"), (0, u "ref"), (0, .integer 983039), (0, .integer 63743), (0, .integer 65007), (0, .integer 65535), (2, u "law"), (0, u "(III)Z")] 5

def k1m0 : Method := { name := "<init>", desc := "()V", sig := { parameters := [], returnType := none }, accessFlags := 2, code := none }
def k1c1 : Code := { maxStack := 4, maxLocals := 5, code := code, exceptionTable := #[], attributes := #[] }
def k1m1 : Method := { name := "law", desc := "(III)Z", sig := { parameters := [.int, .int, .int], returnType := some .boolean }, accessFlags := 9, code := some k1c1 }
def k1c2 : Code := { maxStack := 2, maxLocals := 1, code := method_3_code, exceptionTable := #[], attributes := #[] }
def k1m2 : Method := { name := "ref", desc := "(I)Z", sig := { parameters := [.int], returnType := some .boolean }, accessFlags := 10, code := some k1c2 }
/-- quoth/rdf/BlankNodeIsLetterPinLaw -/
def k1 : Class := { plain "quoth/rdf/BlankNodeIsLetterPinLaw" (some 0) with
  accessFlags := 49
  interfaces := #[]
  cf := some (fileOf pool1 26 #[] #[{ accessFlags := 2, nameIndex := 5, descriptorIndex := 6, attributes := #[] }, { accessFlags := 9, nameIndex := 36, descriptorIndex := 37, attributes := #[] }, { accessFlags := 10, nameIndex := 29, descriptorIndex := 24, attributes := #[] }] 49 2 #[] #[])
  fields := #[]
  methods := #[k1m0, k1m1, k1m2]
  instanceTypes := #[]
  staticTypes := #[]
  resolved := Array.replicate 43 none
  statics := none }

def pool2 : Array CpInfo := pool [(2, .class_ 4), (1, u "java/lang/Object"), (0, u "<init>"), (0, u "()V"), (0, .class_ 8), (0, u "java/lang/Record")] 13

def k2m0 : Method := { name := "<init>", desc := "()V", sig := { parameters := [], returnType := none }, accessFlags := 4, code := none }
/-- java/lang/Record -/
def k2 : Class := { plain "java/lang/Record" (some 0) with
  accessFlags := 1057
  interfaces := #[]
  cf := some (fileOf pool2 7 #[] #[{ accessFlags := 4, nameIndex := 5, descriptorIndex := 6, attributes := #[] }] 1057 2 #[] #[])
  fields := #[]
  methods := #[k2m0]
  instanceTypes := #[]
  staticTypes := #[]
  resolved := Array.replicate 22 none
  statics := none }

def pool3 : Array CpInfo := pool [(1, .class_ 2), (0, u "quoth/rdf/Pattern"), (0, .class_ 4), (0, u "java/lang/Object")] 9

/-- quoth/rdf/Pattern -/
def k3 : Class := { plain "quoth/rdf/Pattern" (some 0) with
  accessFlags := 1537
  interfaces := #[]
  cf := some (fileOf pool3 1 #[] #[] 1537 3 #[] #[])
  fields := #[]
  methods := #[]
  instanceTypes := #[]
  staticTypes := #[]
  resolved := Array.replicate 14 none
  statics := none }

def pool4 : Array CpInfo := pool [(1, .class_ 2), (0, u "quoth/rdf/Term"), (0, .class_ 4), (0, u "java/lang/Object"), (0, .class_ 6), (0, u "quoth/rdf/Pattern")] 9

/-- quoth/rdf/Term -/
def k4 : Class := { plain "quoth/rdf/Term" (some 0) with
  accessFlags := 1537
  interfaces := #[3]
  cf := some (fileOf pool4 1 #[] #[] 1537 3 #[5] #[])
  fields := #[]
  methods := #[]
  instanceTypes := #[]
  staticTypes := #[]
  resolved := Array.replicate 16 none
  statics := none }

def pool5 : Array CpInfo := pool [(1, .class_ 2), (0, u "quoth/rdf/Resource"), (0, .class_ 4), (0, u "java/lang/Object"), (0, .class_ 6), (0, u "quoth/rdf/Term")] 7

/-- quoth/rdf/Resource -/
def k5 : Class := { plain "quoth/rdf/Resource" (some 0) with
  accessFlags := 1537
  interfaces := #[4]
  cf := some (fileOf pool5 1 #[] #[] 1537 3 #[5] #[])
  fields := #[]
  methods := #[]
  instanceTypes := #[]
  staticTypes := #[]
  resolved := Array.replicate 14 none
  statics := none }

def pool6 : Array CpInfo := pool [(2, .class_ 4), (1, u "java/lang/Record"), (3, u "label"), (24, .class_ 35), (1, u "quoth/rdf/BlankNode"), (0, u "isLetter"), (0, u "(I)Z"), (41, u "Ljava/lang/String;"), (0, .integer 55295), (0, .integer 63744), (0, .integer 64975), (0, .integer 65008), (0, .integer 65533), (0, .integer 65536), (0, .integer 983039), (12, .class_ 100), (0, u "quoth/rdf/Resource")] 24

def k6c0 : Code := { maxStack := 2, maxLocals := 1, code := prog_25_method_4_code, exceptionTable := #[], attributes := #[] }
def k6m0 : Method := { name := "isLetter", desc := "(I)Z", sig := { parameters := [.int], returnType := some .boolean }, accessFlags := 9, code := some k6c0 }
/-- quoth/rdf/BlankNode -/
def k6 : Class := { plain "quoth/rdf/BlankNode" (some 2) with
  accessFlags := 49
  interfaces := #[5]
  cf := some (fileOf pool6 33 #[] #[{ accessFlags := 9, nameIndex := 36, descriptorIndex := 37, attributes := #[] }] 49 2 #[99] #[{ accessFlags := 18, nameIndex := 8, descriptorIndex := 79, attributes := #[] }])
  fields := #[{ name := "label", type := (.object "java/lang/String"), accessFlags := 18, slot := 0, constantValue := 0 }]
  methods := #[k6m0]
  instanceTypes := #[(.object "java/lang/String")]
  staticTypes := #[]
  resolved := Array.replicate 125 none
  statics := none }

def pool7 : Array CpInfo := pool [(1, u "java/lang/Cloneable"), (0, .class_ 1), (0, u "java/lang/Object"), (0, .class_ 3)] 3

/-- java/lang/Cloneable -/
def k7 : Class := { plain "java/lang/Cloneable" (some 0) with
  accessFlags := 1537
  interfaces := #[]
  cf := some (fileOf pool7 2 #[] #[] 1537 4 #[] #[])
  fields := #[]
  methods := #[]
  instanceTypes := #[]
  staticTypes := #[]
  resolved := Array.replicate 8 none
  statics := none }

def pool8 : Array CpInfo := pool [(1, u "java/io/Serializable"), (0, .class_ 1), (0, u "java/lang/Object"), (0, .class_ 3)] 3

/-- java/io/Serializable -/
def k8 : Class := { plain "java/io/Serializable" (some 0) with
  accessFlags := 1537
  interfaces := #[]
  cf := some (fileOf pool8 2 #[] #[] 1537 4 #[] #[])
  fields := #[]
  methods := #[]
  instanceTypes := #[]
  staticTypes := #[]
  resolved := Array.replicate 8 none
  statics := none }

/-- the primitive byte -/
def k9 : Class := { plain "byte" none with kind := .primitive 'B', accessFlags := 0x411 }
/-- [B -/
def k10 : Class := { plain "[B" (some 0) with kind := .array 9 .byte, interfaces := #[7, 8], accessFlags := 1041 }

/-- the primitive int -/
def k11 : Class := { plain "int" none with kind := .primitive 'I', accessFlags := 0x411 }
/-- [I -/
def k12 : Class := { plain "[I" (some 0) with kind := .array 11 .int, interfaces := #[7, 8], accessFlags := 1041 }

def heap : Heap := #[]
def classes : Array Class := #[k0, k1, k2, k3, k4, k5, k6, k7, k8, k9, k10, k11, k12]
def interned : List (Array UInt16 × Addr) := []
def slotsUsed : Nat := 0
def theMethod : MethodId := ⟨1, 1⟩
def args0 : Array Value := #[.int 3, .int 4, .int 5]
def aboutOver (below : List Frame) : State where
  vm := { classes := classes, interned := interned.toArray }
  heap := heap
  slotsUsed := slotsUsed
  threads := #[{ frames := .invoking theMethod args0 :: below }]
def below0 : List Frame := [.native { method := ⟨0, 0⟩, args := #[] }]
def about1 : State := aboutOver below0
def p0 : Program := .bare "" "" ""
def e0 : Env := launch0.env 0 0 0
theorem w_frames : about1.frames = Frame.invoking theMethod args0 :: below0 := rfl
set_option maxRecDepth 65536 in
theorem w_args : argsFit about1.vm theMethod args0 = true := by decide +kernel
set_option maxRecDepth 65536 in
theorem w_heap : heapFits about1 = true := by decide +kernel
set_option maxRecDepth 65536 in
theorem w_runnable : about1.curStatus? = some .runnable := by decide +kernel
set_option maxRecDepth 65536 in
theorem w_alone : about1.alone = true := by decide +kernel
set_option maxRecDepth 65536 in
theorem w_named : about1.methodNamed? x = some theMethod := by decide +kernel
set_option maxRecDepth 65536 in
theorem w_hears : about1.hears theMethod below0 = true := by decide +kernel
set_option maxRecDepth 65536 in
theorem w_ripe : about1.ripe theMethod args0 below0 = true := by decide +kernel
theorem w_running : about1.status = .running := rfl
set_option maxRecDepth 65536 in
theorem w_room : about1.hasRoom e0.platform room_1 = true :=
  launch0.hasRoom_least _ room_1 (by decide +kernel) (by decide +kernel) (by decide +kernel) (by decide +kernel) (by decide +kernel) (by decide +kernel)
theorem allAtoms_all (ts : List Jvm.Cond) (a : Array Jvm.Value) (st : Jvm.State) : (allAtoms ts).before a st = ts.all (fun c => c.before a st) := by
  induction ts with
  | nil => rfl
  | cons c t ih =>
    show (Jvm.Cond.and c (allAtoms t)).before a st = _
    rw [Jvm.Cond.before_and, ih, List.all_cons]
def words1 : List Jvm.Cond := Jvm.Cond.code x code maxLocals ret :: tables_1
/-- a 'code' word, met by the world's own term for the bytes: nothing is compared byte by byte -/
theorem code_word {y : MethodName} {bytes : ByteArray} {mx : Nat} {rt : Option FieldType} {a : Array Value} {s : State} {m : MethodId} {meth : Method} {c : Code} (h1 : s.methodNamed? y = some m) (h2 : s.vm.method? m = some meth) (h3 : meth.code = some c) (h4 : c.code = bytes)
    (h5 : (c.maxLocals == mx && c.exceptionTable.isEmpty && decide (c.maxStack ≤ mostOperands) && decide (meth.sig.returnType = rt) && !meth.locks && decide (parseMethodDescriptor y.desc = some meth.sig)) = true) : (Jvm.Cond.code y bytes mx rt).before a s = true := by
  simp only [Bool.and_eq_true, beq_iff_eq, Bool.not_eq_true', decide_eq_true_eq] at h5
  obtain ⟨⟨⟨⟨⟨g1, g2⟩, g3⟩, g4⟩, g5⟩, g6⟩ := h5
  simp [Cond.before, Cond.holds, Cond.value, h1, h2, h3, h4, g1, g2, g3, g4, g5, g6]
def isCode : Jvm.Cond → Bool
  | .code _ _ _ _ => true
  | _ => false
theorem all_split {L : List Jvm.Cond} {P : Jvm.Cond → Bool} (h1 : L.all (fun c => isCode c || P c) = true) (h2 : ∀ c ∈ L.filter isCode, P c = true) : L.all P = true := by
  refine List.all_eq_true.mpr fun c hc => ?_
  have h := List.all_eq_true.mp h1 c hc
  rcases Bool.eq_false_or_eq_true (isCode c) with hi | hi
  · exact h2 c (List.mem_filter.mpr ⟨hc, hi⟩)
  · simpa [hi] using h
set_option maxRecDepth 65536 in
theorem w_c0 : (Jvm.Cond.code x code maxLocals ret).before args0 about1 = true := code_word (m := ⟨1, 1⟩) (meth := k1m1) (c := k1c1) (by decide +kernel) rfl rfl rfl (by decide +kernel)
set_option maxRecDepth 65536 in
theorem w_c1 : (Jvm.Cond.code ({ cls := "quoth/rdf/BlankNode", name := "isLetter", desc := "(I)Z" } : Jvm.MethodName) prog_25_method_4_code (1 : Nat) (Option.some Jvm.ClassFile.FieldType.boolean)).before args0 about1 = true := code_word (m := ⟨6, 0⟩) (meth := k6m0) (c := k6c0) (by decide +kernel) rfl rfl rfl (by decide +kernel)
set_option maxRecDepth 65536 in
theorem w_c2 : (Jvm.Cond.code ({ cls := "quoth/rdf/BlankNodeIsLetterPinLaw", name := "ref", desc := "(I)Z" } : Jvm.MethodName) method_3_code (1 : Nat) (Option.some Jvm.ClassFile.FieldType.boolean)).before args0 about1 = true := code_word (m := ⟨1, 2⟩) (meth := k1m2) (c := k1c2) (by decide +kernel) rfl rfl rfl (by decide +kernel)
def codes1 : List Jvm.Cond := [Jvm.Cond.code x code maxLocals ret, Jvm.Cond.code ({ cls := "quoth/rdf/BlankNode", name := "isLetter", desc := "(I)Z" } : Jvm.MethodName) prog_25_method_4_code (1 : Nat) (Option.some Jvm.ClassFile.FieldType.boolean), Jvm.Cond.code ({ cls := "quoth/rdf/BlankNodeIsLetterPinLaw", name := "ref", desc := "(I)Z" } : Jvm.MethodName) method_3_code (1 : Nat) (Option.some Jvm.ClassFile.FieldType.boolean)]
set_option maxRecDepth 65536 in
theorem codes_eq : words1.filter isCode = codes1 := rfl
theorem w_codes : ∀ c ∈ words1.filter isCode, c.before args0 about1 = true := by
  rw [codes_eq]
  intro c hc
  simp only [codes1, List.mem_cons, List.not_mem_nil, or_false] at hc
  rcases hc with rfl | rfl | rfl
  · exact w_c0
  · exact w_c1
  · exact w_c2
set_option maxRecDepth 65536 in
theorem w_t1 : (words1.take 24).all (fun c => isCode c || c.before args0 about1) = true := by decide +kernel
set_option maxRecDepth 65536 in
theorem w_t2 : (words1.drop 24).all (fun c => isCode c || c.before args0 about1) = true := by decide +kernel
theorem w_tables : (allAtoms (Jvm.Cond.code x code maxLocals ret :: tables_1)).before args0 about1 = true := by
  rw [allAtoms_all]
  show words1.all (fun c => c.before args0 about1) = true
  refine all_split ?_ w_codes
  rw [← List.take_append_drop 24 words1, List.all_append, w_t1, w_t2]
  rfl
set_option maxRecDepth 65536 in
theorem w_case : (Jvm.Cond.and given_1 narrow_1).before args0 about1 = true := by decide +kernel
theorem w_applies : (headSpec (Jvm.Cond.code x code maxLocals ret :: tables_1) room_1).applies x e0.platform about1 = true :=
  (Spec.applies_iff w_frames).mpr ⟨w_running, w_runnable, w_alone, w_named, w_hears, w_ripe, w_room, w_tables⟩
theorem atStart : AtStart classFile x code maxLocals ret World_1 tables_1 room_1 Calls_1 rest_1 Pre_1 launch0 p0 e0 about1 theMethod args0 below0 :=
  ⟨lists_1, trivial, launch0.admits_env _ _ _, launch0.least_env, fairChoices_fair.cas, fairChoices_fair.clock, w_frames, w_args, w_heap, w_applies, trivial, trivial, w_case⟩
end start1
theorem witness_1 : WitnessClaimed_1 := ⟨start1.p0, start1.e0, start1.about1, start1.theMethod, start1.args0, start1.below0, start1.atStart⟩
end Jvm.Pilot.@@N@@
