import JvmDerived
import JvmDerived.Pilot.@@N@@Statement
import JvmDerived.Pilot.@@N@@Code
set_option linter.unusedVariables false
set_option linter.unusedSimpArgs false
namespace Jvm.JW
open Sem ClassFile Op Lib Jvm.Stand Jvm.Free Jvm.LawKit Jvm.RoadKit
/-! The walk in continuation form: D holds of a machine state if the run from it ends as the contract says. -/
def Dn (p : Program) (e : Env) (below : List Frame) (s : State) (Q : Option Value → Heap → List Loc → Prop) (k n : Nat) (S : State) : Prop :=
  ∃ s₂ o, Steps p.tables e below S s₂ ∧ s₂.status = .running ∧ Ended s₂ below o ∧ ∃ v L, o = .returned v ∧ Q v s₂.heap L ∧ FrameEnd s o s₂ L k n
def Adv (p : Program) (e : Env) (below : List Frame) (D : State → Prop) : Prop :=
  ∀ {S S' : State}, (∀ {t : State}, Steps p.tables e below S' t → Steps p.tables e below S t) → D S' → D S
theorem Adv.dn {p : Program} {e : Env} {below : List Frame} {s : State} {Q : Option Value → Heap → List Loc → Prop} {k n : Nat} : Adv p e below (Dn p e below s Q k n) := by
  intro S S' h d
  obtain ⟨s2, o, h1, h2⟩ := d
  exact ⟨s2, o, h h1, h2⟩
theorem Adv.tr {p : Program} {e : Env} {below : List Frame} {D : State → Prop} (A : Adv p e below D) {S S' : State} (h : Steps p.tables e below S S') (d : D S') : D S := A (fun k => h.trans k) d
abbrev JMet (l : Launch) (Z : State) (y : MethodName) (bytes : ByteArray) (maxL : Nat) (ret : Option FieldType) (ws : List Cond) (rm : Room) (as' : Array Value) (h0 : Heap) (Q : Option Value → Heap → List Loc → Prop) : Prop :=
  MetFree l y (head1 (Cond.code y bytes maxL ret :: ws) rm) (fun a U => a = as' ∧ Z.Warmed39 U.vm ∧ U.heap = h0) (fun _ _ _ _ _ => True) (fun _ U o U' => ∃ v L, o = .returned v ∧ Q v U'.heap L ∧ FrameEnd U o U' L rm.cells rm.slots)
/-- a body that returns r and leaves the heap as it was -/
def QP (r : Value) (h0 : Heap) (n0 : Nat) (v : Option Value) (h : Heap) (L : List Loc) : Prop := v = some r ∧ Fr n0 L ∧ h = h0
/-- the law: it returns 1; nothing that stood at the start is written -/
def QL (n0 : Nat) (v : Option Value) (h : Heap) (L : List Loc) : Prop := v = some (.int 1) ∧ Fr n0 L
section Kit
variable {p : Program} {l : Launch} {e : Env} {R : Room} {s : State} {m : MethodId} {args : Array Value} {below : List Frame} {meth : Method} {c : Code} {T : State} {locs : List Loc} {cells slots : Nat} {Z : State} {a0 : Array Value} {h : Heap} {D : State → Prop}
theorem ret (X : Stand p l e R s m args below meth c T locs cells slots) (hlk : meth.locks = false) {Q : Option Value → Heap → List Loc → Prop} {k n : Nat} {S : State} {v : Option Value} (hv : meth.sig.returnType = none → v = none)
    (hst : ∀ fs, (∀ (f : JFrame) (acts : List Action), f.method = m → f.locked = none → f.entered = [] → (doReturn e (T.setTop f) acts v).1 = T.setFrames fs) → Steps p.tables e below S (T.setFrames fs))
    {hh : Heap} (eT : T.heap = hh) (hq : Q v hh locs) (hk : cells ≤ k) (hn : slots ≤ n) : Dn p e below s Q k n S := by
  subst eT
  obtain ⟨fs, hr, hrun, hended, hW, hsame⟩ := X.leave (v := v) hv hlk
  exact ⟨_, _, hst fs hr, hrun, hended, _, _, rfl, hq, ⟨_, rfl⟩, hW, hsame.mono hk hn⟩
theorem body {y : MethodName} {bytes : ByteArray} {maxL : Nat} {rt : Option FieldType} {ws : List Cond} {rm : Room} {as' : Array Value} {h0 : Heap} {Q : Option Value → Heap → List Loc → Prop} (Ls : Array Slot) (hpl : plainFor y = true) (hef : ∀ m, entryFrame m as' maxL = mkF m 0 Ls [])
    (bd : ∀ (p : Program) (e : Env) (s : State) (m : MethodId) (below : List Frame) (meth : Method) (c : Code) (T0 : State) (D : State → Prop), Adv p e below D → (∀ S, Dn p e below s Q rm.cells rm.slots S → D S) → Stand p l e rm s m as' below meth c T0 [] 0 0 → p.tables.exec = Jvm.exec → Z.Warmed39 s.vm → c.code = bytes → c.maxLocals = maxL → s.vm.findClass y.cls = some m.cls → meth.name = y.name → meth.sig.returnType = rt → meth.locks = false → T0.heap = h0 → D (T0.setTop (mkF m 0 Ls []))) :
    JMet l Z y bytes maxL rt ws rm as' h0 Q := by
  refine MetFree.of_bodySF hpl hisR ?_
  intro p e s m args below meth c s₁ Bd hml hP hK
  obtain ⟨rfl, hZ, hh⟩ := hP
  have q := bd p e s m below meth c s₁ (Dn p e below s Q rm.cells rm.slots) Adv.dn (fun _ d => d) (Stand.of_body Bd) Bd.exec hZ Bd.bytes hml (findClass_of_methodNamed Bd.named) (name_of_methodNamed Bd.named Bd.method).1 Bd.returns Bd.notSynchronized (by rw [← hh, Bd.state]; rfl)
  rw [← hef m] at q
  exact q
theorem Adv.callS (A : Adv p e below D) (X : Stand p l e R s m args below meth c T locs cells slots) (hx : p.tables.exec = Jvm.exec) (hZ : Z.Warmed39 s.vm) {own : String} {index : Nat} {y : MethodName} {bytes : ByteArray} {maxL : Nat} {rt : Option FieldType} {rm : Room} {as' : Array Value} {Q : Option Value → Heap → List Loc → Prop}
    (hown : s.vm.findClass own = some m.cls) (w1 : (Cond.methodLink own index y).before a0 Z = true) (w2 : (Cond.static y).before a0 Z = true) (w3 : (Cond.initialized y.cls).before a0 Z = true) (w4 : (Cond.code y bytes maxL rt).before a0 Z = true) (eT : T.heap = h)
    (hM : JMet l Z y bytes maxL rt [] rm as' h Q) (W : Nat) {g : JFrame} (hg : g.method = m) (hsz : g.locals.size = c.maxLocals) (argsL rest : List Value) (has : as' = argsL.toArray)
    (hlen : ∀ sig, parseMethodDescriptor y.desc = some sig → argsL.length = sig.parameters.length) (hstack : g.stack = argsL.reverse ++ rest) (hW : 2 * g.monitorRoom + (rest.map fun v => v.category).sum ≤ W)
    (hd : decode c.code g.pc = .ok (.invokestatic index, 3)) (hy : y.cls ≠ "java/lang/invoke/MethodHandle" ∧ y.cls ≠ "java/lang/invoke/VarHandle") (hf : rm.frames + 1 ≤ R.frames) (hl : W + (maxL + 11) + rm.locals ≤ R.locals) (hc : cells + rm.cells ≤ R.cells) (hs : slots + rm.slots ≤ R.slots)
    (k : ∀ (T' : State) (L' : List Loc) (v : Option Value), Stand p l e R s m args below meth c T' (locs ++ L') (cells + rm.cells) (slots + rm.slots) → Q v T'.heap L' → D (T'.setTop { g with pc := g.pc + 3, stack := v.toList ++ rest })) : D (T.setTop g) := by
  subst has
  obtain ⟨v, _, ⟨T', L, k', n'⟩, -, X', ⟨Lc, hQ, l', y', z'⟩, st⟩ := Jvm.LawKit.callS X hx (y := y) hown (mvT hZ w1) (mvT hZ w2) (mvT hZ w3) (mvT hZ w4) hy (backOf (W := W) hM hZ w4 w3 hf hl) (g := g) hg hsz (argsL := argsL) (rest := rest) hlen hstack hW hd (fun _ _ => ⟨rfl, eT, hc, hs⟩)
  dsimp only [Pt.U, Pt.locs, Pt.cells, Pt.slots] at X' l' y' z' st hQ
  subst l' y' z'
  exact A (fun q => st _ q) (k T' Lc v X' hQ)
theorem Adv.callI (A : Adv p e below D) (X : Stand p l e R s m args below meth c T locs cells slots) (hx : p.tables.exec = Jvm.exec) (hZ : Z.Warmed39 s.vm) {own : String} {index : Nat} {y : MethodName} {bytes : ByteArray} {maxL : Nat} {rm : Room} {as' : Array Value} {Q : Option Value → Heap → List Loc → Prop}
    (hown : s.vm.findClass own = some m.cls) (hi : y.name = "<init>") (w1 : (Cond.methodLink own index y).before a0 Z = true) (w2 : (Cond.instanceMethod y).before a0 Z = true) (w3 : (Cond.initialized y.cls).before a0 Z = true) (w4 : (Cond.code y bytes maxL none).before a0 Z = true) (eT : T.heap = h)
    (hM : JMet l Z y bytes maxL none [] rm as' h Q) (W : Nat) {g : JFrame} (hg : g.method = m) (hsz : g.locals.size = c.maxLocals) (a : Addr) (argsL rest : List Value) (has : as' = (.ref a :: argsL).toArray)
    (hlen : ∀ sig, parseMethodDescriptor y.desc = some sig → argsL.length = sig.parameters.length) (hstack : g.stack = argsL.reverse ++ .ref a :: rest) (hW : 2 * g.monitorRoom + (rest.map fun v => v.category).sum ≤ W)
    (hd : decode c.code g.pc = .ok (.invokespecial index, 3)) (hy : y.cls ≠ "java/lang/invoke/MethodHandle" ∧ y.cls ≠ "java/lang/invoke/VarHandle") (hf : rm.frames + 1 ≤ R.frames) (hl : W + (maxL + 11) + rm.locals ≤ R.locals) (hc : cells + rm.cells ≤ R.cells) (hs : slots + rm.slots ≤ R.slots)
    (k : ∀ (T' : State) (L' : List Loc) (v : Option Value), Stand p l e R s m args below meth c T' (locs ++ L') (cells + rm.cells) (slots + rm.slots) → Q v T'.heap L' → D (T'.setTop { g with pc := g.pc + 3, stack := v.toList ++ rest })) : D (T.setTop g) := by
  subst has
  obtain ⟨v, _, ⟨T', L, k', n'⟩, -, X', ⟨Lc, hQ, l', y', z'⟩, st⟩ := X.specialBack hx (y := y) hi hown (mvT hZ w1) (mvT hZ w2) (mvT hZ w4) hy (backOf (W := W) hM hZ w4 w3 hf hl) (g := g) hg hsz (Steps.refl _) (a := a) (argsL := argsL) (rest := rest) hlen hstack hW hd (fun _ _ => ⟨rfl, eT, hc, hs⟩)
  dsimp only [Pt.U, Pt.locs, Pt.cells, Pt.slots] at X' l' y' z' st hQ
  subst l' y' z'
  exact A.tr st (k T' Lc v X' hQ)
theorem Adv.callV (A : Adv p e below D) (X : Stand p l e R s m args below meth c T locs cells slots) (hx : p.tables.exec = Jvm.exec) (hZ : Z.Warmed39 s.vm) {own C : String} {index : Nat} {y z : MethodName} {bytes : ByteArray} {maxL : Nat} {rt : Option FieldType} {rm : Room} {as' : Array Value} {Q : Option Value → Heap → List Loc → Prop} {a : Addr}
    (hown : s.vm.findClass own = some m.cls) (w1 : (Cond.methodLink own index y).before a0 Z = true) (w2 : (Cond.declares y).before a0 Z = true) (nf : NotFace s y) (w5 : (Cond.selects C y z).before a0 Z = true) (w6 : (Cond.instanceMethod z).before a0 Z = true) (w3 : (Cond.initialized z.cls).before a0 Z = true) (w4 : (Cond.code z bytes maxL rt).before a0 Z = true) (eT : T.heap = h) (E : Exa Z h a C)
    (hM : JMet l Z z bytes maxL rt [] rm as' h Q) (W : Nat) {g : JFrame} (hg : g.method = m) (hsz : g.locals.size = c.maxLocals) (argsL rest : List Value) (has : as' = (.ref a :: argsL).toArray)
    (hlen : ∀ sig, parseMethodDescriptor y.desc = some sig → argsL.length = sig.parameters.length) (hstack : g.stack = argsL.reverse ++ .ref a :: rest) (hW : 2 * g.monitorRoom + (rest.map fun v => v.category).sum ≤ W)
    (hd : decode c.code g.pc = .ok (.invokevirtual index, 3)) (hy : y.cls ≠ "java/lang/invoke/MethodHandle" ∧ y.cls ≠ "java/lang/invoke/VarHandle") (hf : rm.frames + 1 ≤ R.frames) (hl : W + (maxL + 11) + rm.locals ≤ R.locals) (hc : cells + rm.cells ≤ R.cells) (hs : slots + rm.slots ≤ R.slots)
    (k : ∀ (T' : State) (L' : List Loc) (v : Option Value), Stand p l e R s m args below meth c T' (locs ++ L') (cells + rm.cells) (slots + rm.slots) → Q v T'.heap L' → D (T'.setTop { g with pc := g.pc + 3, stack := v.toList ++ rest })) : D (T.setTop g) := by
  subst has
  obtain ⟨cq, kq, qa, qb, qc⟩ := isOf hZ eT E
  obtain ⟨v, _, ⟨T', L, k', n'⟩, -, X', ⟨Lc, hQ, l', y', z'⟩, st⟩ := X.virtualBack hx (y := y) (z := z) hown (mvT hZ w1) (mvT hZ w2) nf (mvT hZ w5) (mvT hZ w6) hy (backOf (W := W) hM hZ w4 w3 hf hl) qa qc (g := g) hg hsz (Steps.refl _) (argsL := argsL) (rest := rest) hlen hstack hW hd (fun _ _ => ⟨rfl, eT, hc, hs⟩)
  dsimp only [Pt.U, Pt.locs, Pt.cells, Pt.slots] at X' l' y' z' st hQ
  subst l' y' z'
  exact A.tr st (k T' Lc v X' hQ)
theorem Adv.callU (A : Adv p e below D) (X : Stand p l e R s m args below meth c T locs cells slots) (hx : p.tables.exec = Jvm.exec) (hZ : Z.Warmed39 s.vm) {own C owner : String} {index : Nat} {y z : MethodName} {bytes : ByteArray} {maxL : Nat} {rt : Option FieldType} {rm : Room} {as' : Array Value} {Q : Option Value → Heap → List Loc → Prop} {a : Addr}
    (hown : s.vm.findClass own = some m.cls) (w1 : (Cond.methodLink own index y).before a0 Z = true) (w7 : (Cond.sameMethod y.cls owner y.name y.desc).before a0 Z = true) (w2 : (Cond.declares ⟨owner, y.name, y.desc⟩).before a0 Z = true) (w5 : (Cond.selects C y z).before a0 Z = true) (w6 : (Cond.instanceMethod z).before a0 Z = true) (w3 : (Cond.initialized z.cls).before a0 Z = true) (w4 : (Cond.code z bytes maxL rt).before a0 Z = true) (eT : T.heap = h) (E : Exa Z h a C)
    (hM : JMet l Z z bytes maxL rt [] rm as' h Q) (W : Nat) {g : JFrame} (hg : g.method = m) (hsz : g.locals.size = c.maxLocals) (argsL rest : List Value) (has : as' = (.ref a :: argsL).toArray)
    (hlen : ∀ sig, parseMethodDescriptor y.desc = some sig → argsL.length = sig.parameters.length) (hstack : g.stack = argsL.reverse ++ .ref a :: rest) (hW : 2 * g.monitorRoom + (rest.map fun v => v.category).sum ≤ W)
    (hd : decode c.code g.pc = .ok (.invokevirtual index, 3)) (hy : owner ≠ "java/lang/invoke/MethodHandle" ∧ owner ≠ "java/lang/invoke/VarHandle") (hf : rm.frames + 1 ≤ R.frames) (hl : W + (maxL + 11) + rm.locals ≤ R.locals) (hc : cells + rm.cells ≤ R.cells) (hs : slots + rm.slots ≤ R.slots)
    (k : ∀ (T' : State) (L' : List Loc) (v : Option Value), Stand p l e R s m args below meth c T' (locs ++ L') (cells + rm.cells) (slots + rm.slots) → Q v T'.heap L' → D (T'.setTop { g with pc := g.pc + 3, stack := v.toList ++ rest })) : D (T.setTop g) := by
  subst has
  obtain ⟨cq, kq, qa, qb, qc⟩ := isOf hZ eT E
  obtain ⟨v, _, ⟨T', L, k', n'⟩, -, X', ⟨Lc, hQ, l', y', z'⟩, st⟩ := X.virtualBackUp hx (x := y) (y := z) (owner := owner) hown (mvT hZ w1) (mvT hZ w7) (mvT hZ w2) hy (mvT hZ w5) (mvT hZ w6) (backOf (W := W) hM hZ w4 w3 hf hl) qa qc (g := g) hg hsz (Steps.refl _) (argsL := argsL) (rest := rest) hlen hstack hW hd (fun _ _ => ⟨rfl, eT, hc, hs⟩)
  dsimp only [Pt.U, Pt.locs, Pt.cells, Pt.slots] at X' l' y' z' st hQ
  subst l' y' z'
  exact A.tr st (k T' Lc v X' hQ)
theorem Adv.callP (A : Adv p e below D) (X : Stand p l e R s m args below meth c T locs cells slots) (hx : p.tables.exec = Jvm.exec) (hZ : Z.Warmed39 s.vm) {own C : String} {index kn : Nat} {y : MethodName} {bytes : ByteArray} {maxL : Nat} {rt : Option FieldType} {rm : Room} {as' : Array Value} {Q : Option Value → Heap → List Loc → Prop} {a : Addr}
    (hown : s.vm.findClass own = some m.cls) (w1 : (Cond.methodLink own index y).before a0 Z = true) (w2 : (Cond.instanceMethod y).before a0 Z = true) (wi : (Cond.instantiable y.cls kn).before a0 Z = true) (w5 : (Cond.privateMethod y).before a0 Z = true) (w3 : (Cond.initialized y.cls).before a0 Z = true) (w4 : (Cond.code y bytes maxL rt).before a0 Z = true) (eT : T.heap = h) (E : Exa Z h a C)
    (hM : JMet l Z y bytes maxL rt [] rm as' h Q) (W : Nat) {g : JFrame} (hg : g.method = m) (hsz : g.locals.size = c.maxLocals) (argsL rest : List Value) (has : as' = (.ref a :: argsL).toArray)
    (hlen : ∀ sig, parseMethodDescriptor y.desc = some sig → argsL.length = sig.parameters.length) (hstack : g.stack = argsL.reverse ++ .ref a :: rest) (hW : 2 * g.monitorRoom + (rest.map fun v => v.category).sum ≤ W)
    (hd : decode c.code g.pc = .ok (.invokevirtual index, 3)) (hy : y.cls ≠ "java/lang/invoke/MethodHandle" ∧ y.cls ≠ "java/lang/invoke/VarHandle") (hf : rm.frames + 1 ≤ R.frames) (hl : W + (maxL + 11) + rm.locals ≤ R.locals) (hc : cells + rm.cells ≤ R.cells) (hs : slots + rm.slots ≤ R.slots)
    (k : ∀ (T' : State) (L' : List Loc) (v : Option Value), Stand p l e R s m args below meth c T' (locs ++ L') (cells + rm.cells) (slots + rm.slots) → Q v T'.heap L' → D (T'.setTop { g with pc := g.pc + 3, stack := v.toList ++ rest })) : D (T.setTop g) := by
  subst has
  obtain ⟨ce, hce, hob⟩ := E.cell
  have hpriv : s.PrivateAt y := Cond.privateMethod_at (mvP hZ w5 (args := #[]))
  have hins : (Cond.instanceMethod y).before args s = true := mvT hZ w2
  have hwi : (Cond.instantiable y.cls kn).before args s = true := mvT hZ wi
  obtain ⟨ck, kk, c1, c2, -, c4, -⟩ := Cond.instantiable_spec hwi
  have hsel := selects_self_of_private c1 c2 (Bool.or_eq_false_iff.mp c4).1 hpriv hins hy
  obtain ⟨v, _, ⟨T', L, k', n'⟩, -, X', ⟨Lc, hQ, l', y', z'⟩, st⟩ := X.privateBack hx (y := y) hown (mvT hZ w1) hins hsel hpriv (mvT hZ w4) hy (backOf (W := W) hM hZ w4 w3 hf hl) (g := g) hg hsz (Steps.refl _) (a := a) (cell := ce) (by rw [eT]; exact hce) hob (argsL := argsL) (rest := rest) hlen hstack hW hd (fun _ _ => ⟨rfl, eT, hc, hs⟩)
  dsimp only [Pt.U, Pt.locs, Pt.cells, Pt.slots] at X' l' y' z' st hQ
  subst l' y' z'
  exact A.tr st (k T' Lc v X' hQ)
end Kit
/-! ### arrays by a function of the place -/
section Arrays
variable {p : Program} {l : Launch} {e : Env} {R : Room} {s : State} {m : MethodId} {args : Array Value} {below : List Frame} {meth : Method} {c : Code} {T : State} {locs : List Loc} {cells slots : Nat} {Z : State} {a0 : Array Value} {h h' : Heap} {D : State → Prop} {a b : Addr} {ty : FieldType} {n : Nat} {f : Nat → Int32} {fJ : Nat → Int64} {sl : Nat} {v : Value} {ws : List Addr}
def ArI (Z : State) (h : Heap) (a : Addr) (ty : FieldType) (n : Nat) (f : Nat → Int32) : Prop :=
  n < 2147483648 ∧ ∃ c : Cell, Arr Z h a c ty ∧ c.slots.size = n ∧ ∀ i, i < n → c.slots[i]? = some (.int (f i))
def ArJ (Z : State) (h : Heap) (a : Addr) (n : Nat) (f : Nat → Int64) : Prop :=
  n < 2147483648 ∧ ∃ c : Cell, Arr Z h a c .long ∧ c.slots.size = n ∧ ∀ i, i < n → c.slots[i]? = some (.long (f i))
theorem ArI.lt (F : ArI Z h a ty n f) : a < h.size := by obtain ⟨-, c, A, -⟩ := F; exact A.lt
theorem ArI.ext (F : ArI Z h a ty n f) (E : Ext h h') : ArI Z h' a ty n f := by obtain ⟨q, c, A, r⟩ := F; exact ⟨q, c, A.ext E, r⟩
theorem ArI.other (F : ArI Z h b ty n f) (W : Wr h h' a sl v) (q : b ≠ a) : ArI Z h' b ty n f := by obtain ⟨z, c, A, r⟩ := F; exact ⟨z, c, A.other W q, r⟩
theorem ArI.keep (F : ArI Z h a ty n f) (K : Keep h h' ws) (q : a ∉ ws) : ArI Z h' a ty n f := by obtain ⟨z, c, A, r⟩ := F; exact ⟨z, c, ⟨K.2.1 a c A.1 q, A.2⟩, r⟩
theorem ArI.eqf {g : Nat → Int32} (F : ArI Z h a ty n f) (q : ∀ i, i < n → f i = g i) : ArI Z h a ty n g := by
  obtain ⟨z, c, A, r, H⟩ := F; exact ⟨z, c, A, r, fun i hi => by rw [← q i hi]; exact H i hi⟩
theorem ArJ.lt (F : ArJ Z h a n fJ) : a < h.size := by obtain ⟨-, c, A, -⟩ := F; exact A.lt
theorem ArJ.ext (F : ArJ Z h a n fJ) (E : Ext h h') : ArJ Z h' a n fJ := by obtain ⟨q, c, A, r⟩ := F; exact ⟨q, c, A.ext E, r⟩
theorem ArJ.other (F : ArJ Z h b n fJ) (W : Wr h h' a sl v) (q : b ≠ a) : ArJ Z h' b n fJ := by obtain ⟨z, c, A, r⟩ := F; exact ⟨z, c, A.other W q, r⟩
theorem ArJ.keep (F : ArJ Z h a n fJ) (K : Keep h h' ws) (q : a ∉ ws) : ArJ Z h' a n fJ := by obtain ⟨z, c, A, r⟩ := F; exact ⟨z, c, ⟨K.2.1 a c A.1 q, A.2⟩, r⟩
theorem ArJ.eqf {g : Nat → Int64} (F : ArJ Z h a n fJ) (q : ∀ i, i < n → fJ i = g i) : ArJ Z h a n g := by
  obtain ⟨z, c, A, r, H⟩ := F; exact ⟨z, c, A, r, fun i hi => by rw [← q i hi]; exact H i hi⟩
theorem ne_ari {C : String} {k : Nat} (F : Exa Z h a C) (wi : (Cond.instantiable C k).before a0 Z = true) (G : ArI Z h b ty n f) : a ≠ b := by obtain ⟨-, c, A, -⟩ := G; exact ne_arr F wi A
theorem ne_arj {C : String} {k : Nat} (F : Exa Z h a C) (wi : (Cond.instantiable C k).before a0 Z = true) (G : ArJ Z h b n fJ) : a ≠ b := by obtain ⟨-, c, A, -⟩ := G; exact ne_arr F wi A
theorem ne_arr2 {c1 c2 : Cell} {t1 t2 : FieldType} (F : Arr Z h a c1 t1) (G : Arr Z h b c2 t2) (hn : t1 ≠ t2) : a ≠ b := fun q => by
  subst q
  cases F.1.symm.trans G.1
  obtain ⟨-, k1, j1, comp1, j2⟩ := F.2.1
  obtain ⟨-, k2, i1, comp2, i2⟩ := G.2.1
  cases j1.symm.trans i1
  rw [j2] at i2
  injection i2 with _ q2
  exact hn q2
theorem ne_aij {n' : Nat} (F : ArI Z h a ty n f) (G : ArJ Z h b n' fJ) (hn : ty ≠ .long) : a ≠ b := by obtain ⟨-, c, A, -⟩ := F; obtain ⟨-, c', A', -⟩ := G; exact ne_arr2 A A' hn
theorem to_nat {j : Int32} {k : Nat} (hk : j.toInt = k) : j.toNatClampNeg = k := by simp only [Int32.toNatClampNeg, hk, Int.toNat_natCast]
theorem inb {cl : Cell} {j : Int32} {k : Nat} (hk : j.toInt = k) (hkn : k < n) (hs : cl.slots.size = n) : ¬ (j < 0 ∨ cl.slots.size ≤ j.toNatClampNeg) := by
  rw [to_nat hk, hs, Int32.lt_iff_toInt_lt, hk, show (0 : Int32).toInt = 0 from rfl]; omega
theorem ixadd {x d : Int32} {k j : Nat} (hx : x.toInt = k) (hd : d.toInt = j) (h : k + j < 2147483648) : (x + d).toInt = ((k + j : Nat) : Int) := by
  have h2 := c_iadd x d
  have h3 := rng32 (x + d)
  omega
theorem ArI.mk {k : ClassId} {z : Int32} (A : Arr Z h a (newA k ty z) ty) (hn : z.toInt = n) (hd : defaultValue ty = .int 0) : ArI Z h a ty n (fun _ => 0) := by
  have hz := to_nat hn
  refine ⟨?_, _, A, by rw [sz_new, hz], fun i hi => ?_⟩
  · have := Int32.toInt_lt z; omega
  · simp [newA, hz, hi, hd]
theorem ArJ.mk {k : ClassId} {z : Int32} (A : Arr Z h a (newA k .long z) .long) (hn : z.toInt = n) : ArJ Z h a n (fun _ => 0) := by
  have hz := to_nat hn
  refine ⟨?_, _, A, by rw [sz_new, hz], fun i hi => ?_⟩
  · have := Int32.toInt_lt z; omega
  · simp [newA, hz, hi, defaultValue]
theorem set_at {cl : Cell} {i k : Nat} (hk : k < cl.slots.size) : (cl.setSlot k v).slots[i]? = if i = k then some v else cl.slots[i]? := by
  simp only [Cell.setSlot, Array.getElem?_setIfInBounds]
  by_cases q : i = k
  · subst q; simp [hk]
  · simp [q, Ne.symm q]
theorem ArI.set {x : Int32} {k : Nat} (F : ArI Z h a ty n f) (W : Wr h h' a k (.int x)) (hk : k < n) : ArI Z h' a ty n (fun i => if i = k then x else f i) := by
  obtain ⟨z, c, A, r, H⟩ := F
  refine ⟨z, _, A.same W, by rw [sz_set, r], fun i hi => ?_⟩
  rw [set_at (by omega)]
  by_cases q : i = k
  · simp [q]
  · simp [q, H i hi]
theorem ArJ.set {x : Int64} {k : Nat} (F : ArJ Z h a n fJ) (W : Wr h h' a k (.long x)) (hk : k < n) : ArJ Z h' a n (fun i => if i = k then x else fJ i) := by
  obtain ⟨z, c, A, r, H⟩ := F
  refine ⟨z, _, A.same W, by rw [sz_set, r], fun i hi => ?_⟩
  rw [set_at (by omega)]
  by_cases q : i = k
  · simp [q]
  · simp [q, H i hi]
theorem Adv.ldI (A : Adv p e below D) (X : Stand p l e R s m args below meth c T locs cells slots) (hx : p.tables.exec = Jvm.exec) (hZ : Z.Warmed39 s.vm) (eT : T.heap = h) (F : ArI Z h a .int n f) {j : Int32} {k : Nat} (hk : j.toInt = k) (hkn : k < n) {g : JFrame} (hg : g.method = m) {rest : List Value} (hs : g.stack = .int j :: .ref a :: rest) (hd : decode c.code g.pc = .ok (.iaload, 1))
    (kk : D (T.setTop { g with pc := g.pc + 1, stack := .int (f k) :: rest })) : D (T.setTop g) := by
  obtain ⟨-, cl, Ar, r, H⟩ := F
  exact A (X.iaload hx (j := j) (v := .int (f k)) (by rw [eT]; exact Ar.1) (State.isArrayOf_alike hZ.alike Ar.2.1) Ar.2.2 (inb hk hkn r) (by rw [to_nat hk]; exact H k hkn) (g := g) hg hs hd _) kk
theorem Adv.ldB (A : Adv p e below D) (X : Stand p l e R s m args below meth c T locs cells slots) (hx : p.tables.exec = Jvm.exec) (hZ : Z.Warmed39 s.vm) (eT : T.heap = h) (F : ArI Z h a .byte n f) {j : Int32} {k : Nat} (hk : j.toInt = k) (hkn : k < n) {g : JFrame} (hg : g.method = m) {rest : List Value} (hs : g.stack = .int j :: .ref a :: rest) (hd : decode c.code g.pc = .ok (.baload, 1))
    (kk : D (T.setTop { g with pc := g.pc + 1, stack := .int (f k) :: rest })) : D (T.setTop g) := by
  obtain ⟨-, cl, Ar, r, H⟩ := F
  exact A (X.baloadBytes hx (j := j) (v := .int (f k)) (by rw [eT]; exact Ar.1) (State.isArrayOf_alike hZ.alike Ar.2.1) Ar.2.2 (inb hk hkn r) (by rw [to_nat hk]; exact H k hkn) (g := g) hg hs hd _) kk
theorem Adv.ldJ (A : Adv p e below D) (X : Stand p l e R s m args below meth c T locs cells slots) (hx : p.tables.exec = Jvm.exec) (hZ : Z.Warmed39 s.vm) (eT : T.heap = h) (F : ArJ Z h a n fJ) {j : Int32} {k : Nat} (hk : j.toInt = k) (hkn : k < n) {g : JFrame} (hg : g.method = m) {rest : List Value} (hs : g.stack = .int j :: .ref a :: rest) (hd : decode c.code g.pc = .ok (.laload, 1))
    (kk : D (T.setTop { g with pc := g.pc + 1, stack := .long (fJ k) :: rest })) : D (T.setTop g) := by
  obtain ⟨-, cl, Ar, r, H⟩ := F
  exact A (X.laload hx (j := j) (v := .long (fJ k)) (by rw [eT]; exact Ar.1) (State.isArrayOf_alike hZ.alike Ar.2.1) Ar.2.2 (inb hk hkn r) (by rw [to_nat hk]; exact H k hkn) (g := g) hg hs hd _) kk
theorem len32 {cl : Cell} (z : n < 2147483648) (r : cl.slots.size = n) : cl.slots.size.toInt32 = Int32.ofNat n   := by rw [r]
theorem Adv.lenI (A : Adv p e below D) (X : Stand p l e R s m args below meth c T locs cells slots) (hx : p.tables.exec = Jvm.exec) (hZ : Z.Warmed39 s.vm) (eT : T.heap = h) (F : ArI Z h a ty n f) {g : JFrame} (hg : g.method = m) {rest : List Value} (hs : g.stack = .ref a :: rest) (hd : decode c.code g.pc = .ok (.arraylength, 1))
    (kk : D (T.setTop { g with pc := g.pc + 1, stack := .int (Int32.ofNat n) :: rest })) : D (T.setTop g) := by
  obtain ⟨z, cl, Ar, r, H⟩ := F
  rw [← len32 z r] at kk
  exact A (X.arraylength hx (by rw [eT]; exact Ar.1) (State.isArrayOf_alike hZ.alike Ar.2.1) (g := g) hg hs hd _) kk
theorem Adv.lenJ (A : Adv p e below D) (X : Stand p l e R s m args below meth c T locs cells slots) (hx : p.tables.exec = Jvm.exec) (hZ : Z.Warmed39 s.vm) (eT : T.heap = h) (F : ArJ Z h a n fJ) {g : JFrame} (hg : g.method = m) {rest : List Value} (hs : g.stack = .ref a :: rest) (hd : decode c.code g.pc = .ok (.arraylength, 1))
    (kk : D (T.setTop { g with pc := g.pc + 1, stack := .int (Int32.ofNat n) :: rest })) : D (T.setTop g) := by
  obtain ⟨z, cl, Ar, r, H⟩ := F
  rw [← len32 z r] at kk
  exact A (X.arraylength hx (by rw [eT]; exact Ar.1) (State.isArrayOf_alike hZ.alike Ar.2.1) (g := g) hg hs hd _) kk
theorem Adv.stI (A : Adv p e below D) (X : Stand p l e R s m args below meth c T locs cells slots) (hx : p.tables.exec = Jvm.exec) (hZ : Z.Warmed39 s.vm) (eT : T.heap = h) (F : ArI Z h a .int n f) {j x : Int32} {k : Nat} (hk : j.toInt = k) (hkn : k < n) {g : JFrame} (hg : g.method = m) {rest : List Value} (hs : g.stack = .int x :: .int j :: .ref a :: rest) (hd : decode c.code g.pc = .ok (.iastore, 1))
    (kk : ∀ T' h', Stand p l e R s m args below meth c T' (locs ++ [⟨a, k⟩]) cells slots → T'.heap = h' → Wr h h' a k (.int x) → ArI Z h' a .int n (fun i => if i = k then x else f i) → D (T'.setTop { g with pc := g.pc + 1, stack := rest })) : D (T.setTop g) := by
  obtain ⟨cl, Ar, r, H⟩ := F.2
  obtain ⟨T', h', X', e', W, st⟩ := Jvm.RoadKit.stI X hx hZ eT Ar (j := j) (x := x) (inb hk hkn r) hg hs hd
  rw [to_nat hk] at X' W
  exact A (fun q => st _ q) (kk T' h' X' e' W (F.set W hkn))
theorem Adv.stB (A : Adv p e below D) (X : Stand p l e R s m args below meth c T locs cells slots) (hx : p.tables.exec = Jvm.exec) (hZ : Z.Warmed39 s.vm) (eT : T.heap = h) (F : ArI Z h a .byte n f) {j x : Int32} {k : Nat} (hk : j.toInt = k) (hkn : k < n) {g : JFrame} (hg : g.method = m) {rest : List Value} (hs : g.stack = .int x :: .int j :: .ref a :: rest) (hd : decode c.code g.pc = .ok (.bastore, 1))
    (kk : ∀ T' h', Stand p l e R s m args below meth c T' (locs ++ [⟨a, k⟩]) cells slots → T'.heap = h' → Wr h h' a k (.int x.toInt8.toInt32) → ArI Z h' a .byte n (fun i => if i = k then x.toInt8.toInt32 else f i) → D (T'.setTop { g with pc := g.pc + 1, stack := rest })) : D (T.setTop g) := by
  obtain ⟨cl, Ar, r, H⟩ := F.2
  obtain ⟨T', h', X', e', W, st⟩ := Jvm.RoadKit.stB X hx hZ eT Ar (j := j) (x := x) (inb hk hkn r) hg hs hd
  rw [to_nat hk] at X' W
  exact A (fun q => st _ q) (kk T' h' X' e' W (F.set W hkn))
theorem Adv.stJ (A : Adv p e below D) (X : Stand p l e R s m args below meth c T locs cells slots) (hx : p.tables.exec = Jvm.exec) (hZ : Z.Warmed39 s.vm) (eT : T.heap = h) (F : ArJ Z h a n fJ) {j : Int32} {x : Int64} {k : Nat} (hk : j.toInt = k) (hkn : k < n) {g : JFrame} (hg : g.method = m) {rest : List Value} (hs : g.stack = .long x :: .int j :: .ref a :: rest) (hd : decode c.code g.pc = .ok (.lastore, 1))
    (kk : ∀ T' h', Stand p l e R s m args below meth c T' (locs ++ [⟨a, k⟩]) cells slots → T'.heap = h' → Wr h h' a k (.long x) → ArJ Z h' a n (fun i => if i = k then x else fJ i) → D (T'.setTop { g with pc := g.pc + 1, stack := rest })) : D (T.setTop g) := by
  obtain ⟨cl, Ar, r, H⟩ := F.2
  obtain ⟨T', h', X', e', W, st⟩ := Jvm.RoadKit.stJ X hx hZ eT Ar (j := j) (x := x) (inb hk hkn r) hg hs hd
  rw [to_nat hk] at X' W
  exact A (fun q => st _ q) (kk T' h' X' e' W (F.set W hkn))
theorem Adv.newI (A : Adv p e below D) (X : Stand p l e R s m args below meth c T locs cells slots) (hx : p.tables.exec = Jvm.exec) (hZ : Z.Warmed39 s.vm) {aty : ArrayType} (w : (Cond.arrayClass (newarray.typeOf aty)).before a0 Z = true) (eT : T.heap = h) {z : Int32} (hz : z.toInt = n) (cap : Nat) (hcap : n ≤ cap) (hb : cap * 8 ≤ 536870912) (hdv : defaultValue (newarray.typeOf aty) = .int 0) {ad : String} (had : "[" ++ (newarray.typeOf aty).toString = ad) (hc : cells + 1 ≤ R.cells) (hl : slots + cap ≤ R.slots) {g : JFrame} (hg : g.method = m) {rest : List Value} (hs : g.stack = .int z :: rest) (hd : decode c.code g.pc = .ok (.newarray aty, 2))
    (kk : ∀ T' h' a, a = h.size → Stand p l e R s m args below meth c T' locs (cells + 1) (slots + cap) → T'.heap = h' → Ext h h' → ArI Z h' a (newarray.typeOf aty) n (fun _ => 0) → Exa Z h' a ad → D (T'.setTop { g with pc := g.pc + 2, stack := .ref a :: rest })) : D (T.setTop g) := by
  have q0 : ¬ z < 0 := by rw [Int32.lt_iff_toInt_lt, hz, show (0 : Int32).toInt = 0 from rfl]; omega
  obtain ⟨T', h', k, X', e', E, Ar, Ex, st⟩ := newPE X hx hZ w eT hg hd hs q0 (cap := cap) (by rw [to_nat hz]; exact hcap) hb hc hl had
  exact A (fun q => st _ q) (kk T' h' _ rfl X' e' E (ArI.mk Ar hz hdv) Ex)
theorem Adv.newJ (A : Adv p e below D) (X : Stand p l e R s m args below meth c T locs cells slots) (hx : p.tables.exec = Jvm.exec) (hZ : Z.Warmed39 s.vm) (w : (Cond.arrayClass .long).before a0 Z = true) (eT : T.heap = h) {z : Int32} (hz : z.toInt = n) (cap : Nat) (hcap : n ≤ cap) (hb : cap * 8 ≤ 536870912) (hc : cells + 1 ≤ R.cells) (hl : slots + cap ≤ R.slots) {g : JFrame} (hg : g.method = m) {rest : List Value} (hs : g.stack = .int z :: rest) (hd : decode c.code g.pc = .ok (.newarray .long, 2))
    (kk : ∀ T' h' a, a = h.size → Stand p l e R s m args below meth c T' locs (cells + 1) (slots + cap) → T'.heap = h' → Ext h h' → ArJ Z h' a n (fun _ => 0) → D (T'.setTop { g with pc := g.pc + 2, stack := .ref a :: rest })) : D (T.setTop g) := by
  have q0 : ¬ z < 0 := by rw [Int32.lt_iff_toInt_lt, hz, show (0 : Int32).toInt = 0 from rfl]; omega
  obtain ⟨T', h', k, X', e', E, Ar, st⟩   := newP (aty := .long) X hx hZ w eT hg hd hs q0 (cap := cap) (by rw [to_nat hz]; exact hcap) hb hc hl
  exact A (fun q => st _ q) (kk T' h' _ rfl X' e' E (ArJ.mk Ar hz))
theorem Adv.cloneI (A : Adv p e below D) (X : Stand p l e R s m args below meth c T locs cells slots) (hx : p.tables.exec = Jvm.exec) (hZ : Z.Warmed39 s.vm) {own ad : String} {index : Nat} (hown : s.vm.findClass own = some m.cls)
    (w1 : (Cond.methodLink own index ⟨ad, "clone", "()Ljava/lang/Object;"⟩).before a0 Z = true) (w2 : (Cond.sameMethod ad "java/lang/Object" "clone" "()Ljava/lang/Object;").before a0 Z = true) (w3 : (Cond.native ⟨"java/lang/Object", "clone", "()Ljava/lang/Object;"⟩).before a0 Z = true)
    (w4 : (Cond.instanceMethod ⟨"java/lang/Object", "clone", "()Ljava/lang/Object;"⟩).before a0 Z = true) (w5 : (Cond.selects ad ⟨ad, "clone", "()Ljava/lang/Object;"⟩ ⟨"java/lang/Object", "clone", "()Ljava/lang/Object;"⟩).before a0 Z = true) (w6 : (Cond.castable ad "java/lang/Cloneable").before a0 Z = true)
    (eT : T.heap = h) (F : ArI Z h a ty n f) (hfit : ∀ i, i < n → fits ty (.int (f i)) = true) (E : Exa Z h a ad) (W cap : Nat) (hcap : n ≤ cap) {g : JFrame} (hg : g.method = m) (hsz : g.locals.size = c.maxLocals) {rest : List Value} (hs : g.stack = .ref a :: rest) (hd : decode c.code g.pc = .ok (.invokevirtual index, 3))
    (hW : 2 * g.monitorRoom + (rest.map fun v => v.category).sum ≤ W) (hf : 1 ≤ R.frames) (hl : W + 14 ≤ R.locals) (hc : cells + 1 ≤ R.cells) (hsl : slots + cap ≤ R.slots)
    (kk : ∀ T' h' b, b = h.size → Stand p l e R s m args below meth c T' locs (cells + 1) (slots + cap) → T'.heap = h' → Ext h h' → ArI Z h' b ty n f → Exa Z h' b ad → D (T'.setTop { g with pc := g.pc + 3, stack := .ref b :: rest })) : D (T.setTop g) := by
  obtain ⟨z, cl, Ar, r, H⟩ := F
  have FC : FitC Z cl := fitC_of Ar fun i hi v hv => by rw [H i (by omega)] at hv; cases hv; exact hfit i (by omega)
  obtain ⟨T', h', X', e', Ex, Ar', E', st⟩ := cloneA X hx hZ hown w1 w2 w3 w4 w5 w6 eT Ar E FC hg hsz hs hd hf hW hl (by rw [r]; exact hcap) hc hsl
  exact A (fun q => st _ q) (kk T' h' _ rfl X' e' Ex ⟨z, _, Ar', r, H⟩ E')
end Arrays
end Jvm.JW
namespace Jvm.Pilot.@@N@@
open Jvm Jvm.ClassFile Sem Op Lib Jvm.Free Jvm.Stand Jvm.LawKit Jvm.RoadKit Bundle Jvm.JW Jvm.Pilot.@@N@@.Jvm.D
def own_w (f : Nat → Int32) (k : Nat) (v : Int32) : Nat → Int32 := fun i => if i = k then v.toInt8.toInt32 else f i
def own_put (f : Nat → Int32) (k : Nat) (v : Int32) : Nat → Int32 := own_w (own_w (own_w (own_w f k (((v.toUInt32 >>> ((0 : Int32) &&& 31).toUInt32).toInt32).toInt8.toInt32)) (k + 1) (((v.toUInt32 >>> ((8 : Int32) &&& 31).toUInt32).toInt32).toInt8.toInt32)) (k + 2) (((v.toUInt32 >>> ((16 : Int32) &&& 31).toUInt32).toInt32).toInt8.toInt32)) (k + 3) (((v.toUInt32 >>> ((24 : Int32) &&& 31).toUInt32).toInt32).toInt8.toInt32)
def own_inc (n : Int32) : Int32 := n + (1 : Int32)
def own_T (s p o : Int32) : Nat → Int32 := own_put (own_put (own_put (own_w (fun _ => 0) 0 (8 : Int32)) 1 s) 5 p) 9 o
theorem d5_0 : decode prog_64_method_18_code 0 = .ok (.aload_n 0, 1) := by decide +kernel
theorem d5_1 : decode prog_64_method_18_code 1 = .ok (.getfield 13, 3) := by decide +kernel
theorem d5_4 : decode prog_64_method_18_code 4 = .ok (.aload_n 0, 1) := by decide +kernel
theorem d5_5 : decode prog_64_method_18_code 5 = .ok (.getfield 7, 3) := by decide +kernel
theorem d5_8 : decode prog_64_method_18_code 8 = .ok (.arraylength, 1) := by decide +kernel
theorem d5_9 : decode prog_64_method_18_code 9 = .ok (.if_icmp .ne 20, 3) := by decide +kernel
theorem d5_29 : decode prog_64_method_18_code 29 = .ok (.aload_n 0, 1) := by decide +kernel
theorem d5_30 : decode prog_64_method_18_code 30 = .ok (.getfield 7, 3) := by decide +kernel
theorem d5_33 : decode prog_64_method_18_code 33 = .ok (.aload_n 0, 1) := by decide +kernel
theorem d5_34 : decode prog_64_method_18_code 34 = .ok (.dup, 1) := by decide +kernel
theorem d5_35 : decode prog_64_method_18_code 35 = .ok (.getfield 13, 3) := by decide +kernel
theorem d5_38 : decode prog_64_method_18_code 38 = .ok (.dup_x1, 1) := by decide +kernel
theorem d5_39 : decode prog_64_method_18_code 39 = .ok (.iconst 1, 1) := by decide +kernel
theorem d5_40 : decode prog_64_method_18_code 40 = .ok (.iadd, 1) := by decide +kernel
theorem d5_41 : decode prog_64_method_18_code 41 = .ok (.putfield 13, 3) := by decide +kernel
theorem d5_44 : decode prog_64_method_18_code 44 = .ok (.iload_n 1, 1) := by decide +kernel
theorem d5_45 : decode prog_64_method_18_code 45 = .ok (.bastore, 1) := by decide +kernel
theorem d5_46 : decode prog_64_method_18_code 46 = .ok (.return_, 1) := by decide +kernel
theorem pn5 : plainFor (⟨"quoth/store/Record", "append", "(B)V"⟩ : MethodName) = true := by decide +kernel
theorem ef5 (self : Addr) (p1 : Int32) (m : MethodId) : entryFrame m #[(.ref self), (.int p1)] 2 = mkF m 0 #[.val (.ref self), .val (.int p1)] [] := by first | (simp [entryFrame, mkF, argsToLocals, Value.category]; done) | rfl
set_option maxRecDepth 65536 in
set_option maxHeartbeats 40000000 in
theorem rm5 (l : Launch) (Z : State) (a0 : Array Value) (hw : ∀ d ∈ tables_1, d.before a0 Z = true) (ws : List Jvm.Cond) (self : Addr) (p1 : Int32) (h0 : Heap) (n0 : Nat) (b : Addr) (len : Int32) (f : Nat → Int32) (k : Nat) (hk : len.toInt = k) (hk2 : k + 0 < 256) (Z0 : n0 ≤ h0.size) (g_self : n0 ≤ self) (g_b : n0 ≤ b) (E_self : Exa Z h0 self "quoth/store/Record") (F_bytes : Fld Z h0 self "quoth/store/Record" "bytes" "[B" (.ref b)) (F_length : Fld Z h0 self "quoth/store/Record" "length" "I" (.int len)) (V_b : ArI Z h0 b .byte 256 f) :
    JMet l Z (⟨"quoth/store/Record", "append", "(B)V"⟩ : MethodName) prog_64_method_18_code 2 none ws ({ frames := 0, cells := 0, slots := 0, locals := 0 } : Room) #[(.ref self), (.int p1)] h0 (fun v h L => v = none ∧ Fr n0 L ∧ Keep h0 h [self, b] ∧ Exa Z h self "quoth/store/Record" ∧ Fld Z h self "quoth/store/Record" "bytes" "[B" (.ref b) ∧ Fld Z h self "quoth/store/Record" "length" "I" (.int (own_inc len)) ∧ ArI Z h b .byte 256 (own_w f k p1)) := by
  refine Jvm.JW.body #[.val (.ref self), .val (.int p1)] pn5 (ef5 self p1) ?_
  intro p e s m below meth c T0 D A F X0 hx hZ hby hml hown hnm hrt hlk e0
  have hne : ¬ len = (256 : Int32) := by rw [← Int32.toInt_inj, hk, show (256 : Int32).toInt = 256 from rfl]; omega
  refine A (XS.aloadN X0.here hx rfl (hb hby d5_0) rfl rfl) ?_
  show D (T0.setTop (mkF m 1 #[.val (.ref self), .val (.int p1)] [(.ref self)]))
  obtain ⟨T1, X1, e1, st1⟩ := getF X0 hx hZ hown (host := "") (Or.inl (hw _ (List.mem_of_getElem? (i := 21) rfl))) Via.refl e0 F_length (g := (mkF m 1 #[.val (.ref self), .val (.int p1)] [(.ref self)])) rfl rfl (hb hby d5_1)
  refine A (st1 _) ?_
  show D (T1.setTop (mkF m 4 #[.val (.ref self), .val (.int p1)] [(.int len)]))
  refine A (XS.aloadN X1.here hx rfl (hb hby d5_4) rfl rfl) ?_
  show D (T1.setTop (mkF m 5 #[.val (.ref self), .val (.int p1)] [(.ref self), (.int len)]))
  obtain ⟨T2, X2, e2, st2⟩ := getF X1 hx hZ hown (host := "") (Or.inl (hw _ (List.mem_of_getElem? (i := 10) rfl))) Via.refl e1 F_bytes (g := (mkF m 5 #[.val (.ref self), .val (.int p1)] [(.ref self), (.int len)])) rfl rfl (hb hby d5_5)
  refine A (st2 _) ?_
  show D (T2.setTop (mkF m 8 #[.val (.ref self), .val (.int p1)] [(.ref b), (.int len)]))
  refine Adv.lenI A X2 hx hZ e2 V_b (g := (mkF m 8 #[.val (.ref self), .val (.int p1)] [(.ref b), (.int len)])) rfl rfl (hb hby d5_8) ?_
  show D (T2.setTop (mkF m 9 #[.val (.ref self), .val (.int p1)] [(.int (256 : Int32)), (.int len)]))
  refine A (XS.icmpYes X2.here hx rfl (pc0 := 9) (pc' := 29) rfl (hb hby d5_9) rfl (feq hne).2 (by decide) (by decide)) ?_
  show D (T2.setTop (mkF m 29 #[.val (.ref self), .val (.int p1)] []))
  refine A (XS.aloadN X2.here hx rfl (hb hby d5_29) rfl rfl) ?_
  show D (T2.setTop (mkF m 30 #[.val (.ref self), .val (.int p1)] [(.ref self)]))
  obtain ⟨T3, X3, e3, st3⟩ := getF X2 hx hZ hown (host := "") (Or.inl (hw _ (List.mem_of_getElem? (i := 10) rfl))) Via.refl e2 F_bytes (g := (mkF m 30 #[.val (.ref self), .val (.int p1)] [(.ref self)])) rfl rfl (hb hby d5_30)
  refine A (st3 _) ?_
  show D (T3.setTop (mkF m 33 #[.val (.ref self), .val (.int p1)] [(.ref b)]))
  refine A (XS.aloadN X3.here hx rfl (hb hby d5_33) rfl rfl) ?_
  show D (T3.setTop (mkF m 34 #[.val (.ref self), .val (.int p1)] [(.ref self), (.ref b)]))
  refine A (XS.dup X3.here hx rfl (hb hby d5_34) rfl rfl) ?_
  show D (T3.setTop (mkF m 35 #[.val (.ref self), .val (.int p1)] [(.ref self), (.ref self), (.ref b)]))
  obtain ⟨T4, X4, e4, st4⟩ := getF X3 hx hZ hown (host := "") (Or.inl (hw _ (List.mem_of_getElem? (i := 21) rfl))) Via.refl e3 F_length (g := (mkF m 35 #[.val (.ref self), .val (.int p1)] [(.ref self), (.ref self), (.ref b)])) rfl rfl (hb hby d5_35)
  refine A (st4 _) ?_
  show D (T4.setTop (mkF m 38 #[.val (.ref self), .val (.int p1)] [(.int len), (.ref self), (.ref b)]))
  refine A (XS.dupX1 X4.here hx rfl (hb hby d5_38) rfl rfl rfl) ?_
  show D (T4.setTop (mkF m 39 #[.val (.ref self), .val (.int p1)] [(.int len), (.ref self), (.int len), (.ref b)]))
  refine A (XS.iconst X4.here hx rfl (hb hby d5_39)) ?_
  show D (T4.setTop (mkF m 40 #[.val (.ref self), .val (.int p1)] [(.int (1 : Int32)), (.int len), (.ref self), (.int len), (.ref b)]))
  refine A (XS.iadd X4.here hx rfl (hb hby d5_40) rfl) ?_
  show D (T4.setTop (mkF m 41 #[.val (.ref self), .val (.int p1)] [(.int (len + (1 : Int32))), (.ref self), (.int len), (.ref b)]))
  obtain ⟨T5, h5, X5, e5, W5, st5⟩ := putF X4 hx hZ hown (host := "") (Or.inl (hw _ (List.mem_of_getElem? (i := 21) rfl))) Via.refl e4 F_length E_self (Or.inl (hw _ (List.mem_of_getElem? (i := 22) rfl))) (hw _ (List.mem_of_getElem? (i := 1) rfl)) (ty := .int) (by decide) rfl rfl (g := (mkF m 41 #[.val (.ref self), .val (.int p1)] [(.int (len + (1 : Int32))), (.ref self), (.int len), (.ref b)])) rfl rfl (hb hby d5_41)
  have N5 := Fr.snoc X5 (Fr.nil n0) g_self
  have F_length_5 := F_length.same W5
  have E_self_5 := E_self.wr W5
  have F_bytes_5 := F_bytes.other W5 (Or.inr (slot_ne (Or.inl (hw _ (List.mem_of_getElem? (i := 11) rfl))) (Or.inl (hw _ (List.mem_of_getElem? (i := 22) rfl))) (by decide) (t := (.array .byte)) (t' := .int) (by decide) (by decide)))
  have V_b_5 := V_b.other W5 (Ne.symm (ne_ari E_self (hw _ (List.mem_of_getElem? (i := 1) rfl)) V_b))
  have Z_5 : n0 ≤ h5.size := Nat.le_trans Z0 (Nat.le_of_eq W5.size.symm)
  have KK_5 : Keep h0 h5 [self, b] := (Keep.refl h0 [self, b]).wr W5 (Or.inl (List.mem_of_getElem? (i := 0) rfl))
  refine A (st5 _) ?_
  show D (T5.setTop (mkF m 44 #[.val (.ref self), .val (.int p1)] [(.int len), (.ref b)]))
  refine A (XS.iloadN X5.here hx rfl (hb hby d5_44) rfl) ?_
  show D (T5.setTop (mkF m 45 #[.val (.ref self), .val (.int p1)] [(.int p1), (.int len), (.ref b)]))
  refine Adv.stB A X5 hx hZ e5 V_b_5 (k := k) hk (by omega) (g := (mkF m 45 #[.val (.ref self), .val (.int p1)] [(.int p1), (.int len), (.ref b)])) rfl rfl (hb hby d5_45) ?_
  intro T6 h6 X6 e6 W6 Vb_6
  have N6 := Fr.snoc X6 N5 g_b
  have E_self_6 := E_self_5.wr W6
  have F_bytes_6 := F_bytes_5.other W6 (Or.inl (ne_ari E_self_5 (hw _ (List.mem_of_getElem? (i := 1) rfl)) V_b_5))
  have F_length_6 := F_length_5.other W6 (Or.inl (ne_ari E_self_5 (hw _ (List.mem_of_getElem? (i := 1) rfl)) V_b_5))
  have Z_6 : n0 ≤ h6.size := Nat.le_trans Z_5 (Nat.le_of_eq W6.size.symm)
  have KK_6 : Keep h0 h6 [self, b] := KK_5.wr W6 (Or.inl (List.mem_of_getElem? (i := 1) rfl))
  show D (T6.setTop (mkF m 46 #[.val (.ref self), .val (.int p1)] []))
  exact F _ (Jvm.JW.ret X6 hlk (v := none) (fun _ => rfl) (fun fs hr => X6.returnOut hx hrt (hb hby d5_46) hr) e6 ⟨rfl, N6, KK_6, E_self_6, F_bytes_6, F_length_6, Vb_6⟩ (by decide) (by decide))
theorem own_hk {len : Int32} {k : Nat} (hk : len.toInt = k) (h : k + 1 < 256) : (own_inc len).toInt = ((k + 1 : Nat) : Int) := ixadd hk (by decide) (by omega)
theorem d6_0 : decode prog_64_method_19_code 0 = .ok (.iconst 0, 1) := by decide +kernel
theorem d6_1 : decode prog_64_method_19_code 1 = .ok (.istore_n 2, 1) := by decide +kernel
theorem d6_2 : decode prog_64_method_19_code 2 = .ok (.iload_n 2, 1) := by decide +kernel
theorem d6_3 : decode prog_64_method_19_code 3 = .ok (.bipush 32, 2) := by decide +kernel
theorem d6_5 : decode prog_64_method_19_code 5 = .ok (.if_icmp .ge 17, 3) := by decide +kernel
theorem d6_8 : decode prog_64_method_19_code 8 = .ok (.aload_n 0, 1) := by decide +kernel
theorem d6_9 : decode prog_64_method_19_code 9 = .ok (.iload_n 1, 1) := by decide +kernel
theorem d6_10 : decode prog_64_method_19_code 10 = .ok (.iload_n 2, 1) := by decide +kernel
theorem d6_11 : decode prog_64_method_19_code 11 = .ok (.iushr, 1) := by decide +kernel
theorem d6_12 : decode prog_64_method_19_code 12 = .ok (.i2b, 1) := by decide +kernel
theorem d6_13 : decode prog_64_method_19_code 13 = .ok (.invokevirtual 62, 3) := by decide +kernel
theorem d6_16 : decode prog_64_method_19_code 16 = .ok (.iinc 2 8, 3) := by decide +kernel
theorem d6_19 : decode prog_64_method_19_code 19 = .ok (.goto (-17), 3) := by decide +kernel
theorem d6_22 : decode prog_64_method_19_code 22 = .ok (.return_, 1) := by decide +kernel
theorem pn6 : plainFor (⟨"quoth/store/Record", "appendId", "(I)V"⟩ : MethodName) = true := by decide +kernel
theorem pd6_0 : parseMethodDescriptor "(B)V" = some ⟨[.byte], none⟩ := by decide +kernel
theorem ef6 (self : Addr) (p1 : Int32) (m : MethodId) : entryFrame m #[(.ref self), (.int p1)] 3 = mkF m 0 #[.val (.ref self), .val (.int p1), .unset] [] := by first | (simp [entryFrame, mkF, argsToLocals, Value.category]; done) | rfl
set_option maxRecDepth 65536 in
set_option maxHeartbeats 40000000 in
theorem rm6 (l : Launch) (Z : State) (a0 : Array Value) (hw : ∀ d ∈ tables_1, d.before a0 Z = true) (ws : List Jvm.Cond) (self : Addr) (p1 : Int32) (h0 : Heap) (n0 : Nat) (b : Addr) (len : Int32) (f : Nat → Int32) (k : Nat) (hk : len.toInt = k) (hk2 : k + 4 < 256) (Z0 : n0 ≤ h0.size) (g_self : n0 ≤ self) (g_b : n0 ≤ b) (E_self : Exa Z h0 self "quoth/store/Record") (F_bytes : Fld Z h0 self "quoth/store/Record" "bytes" "[B" (.ref b)) (F_length : Fld Z h0 self "quoth/store/Record" "length" "I" (.int len)) (V_b : ArI Z h0 b .byte 256 f) :
    JMet l Z (⟨"quoth/store/Record", "appendId", "(I)V"⟩ : MethodName) prog_64_method_19_code 3 none ws ({ frames := 1, cells := 0, slots := 0, locals := 13 } : Room) #[(.ref self), (.int p1)] h0 (fun v h L => v = none ∧ Fr n0 L ∧ Keep h0 h [self, b] ∧ Exa Z h self "quoth/store/Record" ∧ Fld Z h self "quoth/store/Record" "bytes" "[B" (.ref b) ∧ Fld Z h self "quoth/store/Record" "length" "I" (.int (own_inc (own_inc (own_inc (own_inc len))))) ∧ ArI Z h b .byte 256 (own_put f k p1)) := by
  refine Jvm.JW.body #[.val (.ref self), .val (.int p1), .unset] pn6 (ef6 self p1) ?_
  intro p e s m below meth c T0 D A F X0 hx hZ hby hml hown hnm hrt hlk e0
  refine A (XS.iconst X0.here hx rfl (hb hby d6_0)) ?_
  show D (T0.setTop (mkF m 1 #[.val (.ref self), .val (.int p1), .unset] [(.int (0 : Int32))]))
  refine A (XS.istoreN X0.here hx rfl (hb hby d6_1) rfl (l' := #[.val (.ref self), .val (.int p1), .val (.int (0 : Int32))]) rfl) ?_
  show D (T0.setTop (mkF m 2 #[.val (.ref self), .val (.int p1), .val (.int (0 : Int32))] []))
  refine A (XS.iloadN X0.here hx rfl (hb hby d6_2) rfl) ?_
  show D (T0.setTop (mkF m 3 #[.val (.ref self), .val (.int p1), .val (.int (0 : Int32))] [(.int (0 : Int32))]))
  refine A (XS.bipush X0.here hx rfl (hb hby d6_3)) ?_
  show D (T0.setTop (mkF m 5 #[.val (.ref self), .val (.int p1), .val (.int (0 : Int32))] [(.int (32 : Int32)), (.int (0 : Int32))]))
  refine A (XS.icmpNo X0.here hx rfl (hb hby d6_5) rfl (tlt (by decide : (0 : Int32) < (32 : Int32))).2.1) ?_
  show D (T0.setTop (mkF m 8 #[.val (.ref self), .val (.int p1), .val (.int (0 : Int32))] []))
  refine A (XS.aloadN X0.here hx rfl (hb hby d6_8) rfl rfl) ?_
  show D (T0.setTop (mkF m 9 #[.val (.ref self), .val (.int p1), .val (.int (0 : Int32))] [(.ref self)]))
  refine A (XS.iloadN X0.here hx rfl (hb hby d6_9) rfl) ?_
  show D (T0.setTop (mkF m 10 #[.val (.ref self), .val (.int p1), .val (.int (0 : Int32))] [(.int p1), (.ref self)]))
  refine A (XS.iloadN X0.here hx rfl (hb hby d6_10) rfl) ?_
  show D (T0.setTop (mkF m 11 #[.val (.ref self), .val (.int p1), .val (.int (0 : Int32))] [(.int (0 : Int32)), (.int p1), (.ref self)]))
  refine A (XS.iushr X0.here hx rfl (hb hby d6_11) rfl) ?_
  show D (T0.setTop (mkF m 12 #[.val (.ref self), .val (.int p1), .val (.int (0 : Int32))] [(.int ((p1.toUInt32 >>> ((0 : Int32) &&& 31).toUInt32).toInt32)), (.ref self)]))
  refine A (XS.i2b X0.here hx rfl (hb hby d6_12) rfl) ?_
  show D (T0.setTop (mkF m 13 #[.val (.ref self), .val (.int p1), .val (.int (0 : Int32))] [(.int (((p1.toUInt32 >>> ((0 : Int32) &&& 31).toUInt32).toInt32).toInt8.toInt32)), (.ref self)]))
  refine Adv.callP A X0 hx hZ hown (hw _ (List.mem_of_getElem? (i := 23) rfl)) (hw _ (List.mem_of_getElem? (i := 24) rfl)) (hw _ (List.mem_of_getElem? (i := 1) rfl)) (hw _ (List.mem_of_getElem? (i := 25) rfl)) (hw _ (List.mem_of_getElem? (i := 2) rfl)) (hw _ (List.mem_of_getElem? (i := 26) rfl)) e0 E_self (rm5 l Z a0 hw [] self (((p1.toUInt32 >>> ((0 : Int32) &&& 31).toUInt32).toInt32).toInt8.toInt32) h0 n0 b len f k hk (by omega) Z0 g_self g_b E_self F_bytes F_length V_b) 0 (g := (mkF m 13 #[.val (.ref self), .val (.int p1), .val (.int (0 : Int32))] [(.int (((p1.toUInt32 >>> ((0 : Int32) &&& 31).toUInt32).toInt32).toInt8.toInt32)), (.ref self)])) rfl (by rw [hml]; rfl) [(.int (((p1.toUInt32 >>> ((0 : Int32) &&& 31).toUInt32).toInt32).toInt8.toInt32))] [] rfl (lenOf pd6_0 rfl) rfl (by show 2 * 0 + _ ≤ _; exact Nat.le_of_eq rfl) (hb hby d6_13) (by decide) (by decide) (by decide) (by decide) (by decide) ?_
  rintro T1 L1 _ X1 ⟨rfl, N1_q, K1, -, Fb1, Fl1, V1_q⟩
  have N1 := Fr.app (Fr.nil n0) N1_q
  have E_self_1 := E_self.keep K1
  have Z_1 : n0 ≤ T1.heap.size := Nat.le_trans Z0 K1.1
  have KK_1 : Keep h0 T1.heap [self, b] := (Keep.refl h0 [self, b]).trans K1 (allS (Or.inl (List.mem_of_getElem? (i := 0) rfl)) (allS (Or.inl (List.mem_of_getElem? (i := 1) rfl)) all0))
  show D (T1.setTop (mkF m 16 #[.val (.ref self), .val (.int p1), .val (.int (0 : Int32))] []))
  refine A (XS.iinc X1.here hx rfl (hb hby d6_16) rfl (l' := #[.val (.ref self), .val (.int p1), .val (.int ((0 : Int32) + (8 : Int32)))]) rfl) ?_
  show D (T1.setTop (mkF m 19 #[.val (.ref self), .val (.int p1), .val (.int ((0 : Int32) + (8 : Int32)))] []))
  suffices Kq2 : ∀ q2 : Int32, q2 = (8 : Int32) → D (T1.setTop (mkF m 19 #[.val (.ref self), .val (.int p1), .val (.int q2)] [])) from Kq2 _ (by decide)
  rintro _ rfl
  show D (T1.setTop (mkF m 19 #[.val (.ref self), .val (.int p1), .val (.int (8 : Int32))] []))
  refine A (XS.goto X1.here hx rfl (pc0 := 19) (pc' := 2) rfl (hb hby d6_19) (by decide) (by decide)) ?_
  show D (T1.setTop (mkF m 2 #[.val (.ref self), .val (.int p1), .val (.int (8 : Int32))] []))
  refine A (XS.iloadN X1.here hx rfl (hb hby d6_2) rfl) ?_
  show D (T1.setTop (mkF m 3 #[.val (.ref self), .val (.int p1), .val (.int (8 : Int32))] [(.int (8 : Int32))]))
  refine A (XS.bipush X1.here hx rfl (hb hby d6_3)) ?_
  show D (T1.setTop (mkF m 5 #[.val (.ref self), .val (.int p1), .val (.int (8 : Int32))] [(.int (32 : Int32)), (.int (8 : Int32))]))
  refine A (XS.icmpNo X1.here hx rfl (hb hby d6_5) rfl (tlt (by decide : (8 : Int32) < (32 : Int32))).2.1) ?_
  show D (T1.setTop (mkF m 8 #[.val (.ref self), .val (.int p1), .val (.int (8 : Int32))] []))
  refine A (XS.aloadN X1.here hx rfl (hb hby d6_8) rfl rfl) ?_
  show D (T1.setTop (mkF m 9 #[.val (.ref self), .val (.int p1), .val (.int (8 : Int32))] [(.ref self)]))
  refine A (XS.iloadN X1.here hx rfl (hb hby d6_9) rfl) ?_
  show D (T1.setTop (mkF m 10 #[.val (.ref self), .val (.int p1), .val (.int (8 : Int32))] [(.int p1), (.ref self)]))
  refine A (XS.iloadN X1.here hx rfl (hb hby d6_10) rfl) ?_
  show D (T1.setTop (mkF m 11 #[.val (.ref self), .val (.int p1), .val (.int (8 : Int32))] [(.int (8 : Int32)), (.int p1), (.ref self)]))
  refine A (XS.iushr X1.here hx rfl (hb hby d6_11) rfl) ?_
  show D (T1.setTop (mkF m 12 #[.val (.ref self), .val (.int p1), .val (.int (8 : Int32))] [(.int ((p1.toUInt32 >>> ((8 : Int32) &&& 31).toUInt32).toInt32)), (.ref self)]))
  refine A (XS.i2b X1.here hx rfl (hb hby d6_12) rfl) ?_
  show D (T1.setTop (mkF m 13 #[.val (.ref self), .val (.int p1), .val (.int (8 : Int32))] [(.int (((p1.toUInt32 >>> ((8 : Int32) &&& 31).toUInt32).toInt32).toInt8.toInt32)), (.ref self)]))
  refine Adv.callP A X1 hx hZ hown (hw _ (List.mem_of_getElem? (i := 23) rfl)) (hw _ (List.mem_of_getElem? (i := 24) rfl)) (hw _ (List.mem_of_getElem? (i := 1) rfl)) (hw _ (List.mem_of_getElem? (i := 25) rfl)) (hw _ (List.mem_of_getElem? (i := 2) rfl)) (hw _ (List.mem_of_getElem? (i := 26) rfl)) rfl E_self_1 (rm5 l Z a0 hw [] self (((p1.toUInt32 >>> ((8 : Int32) &&& 31).toUInt32).toInt32).toInt8.toInt32) T1.heap n0 b (own_inc len) (own_w f k (((p1.toUInt32 >>> ((0 : Int32) &&& 31).toUInt32).toInt32).toInt8.toInt32)) (k + 1) (own_hk hk (by omega)) (by omega) Z_1 g_self g_b E_self_1 Fb1 Fl1 V1_q) 0 (g := (mkF m 13 #[.val (.ref self), .val (.int p1), .val (.int (8 : Int32))] [(.int (((p1.toUInt32 >>> ((8 : Int32) &&& 31).toUInt32).toInt32).toInt8.toInt32)), (.ref self)])) rfl (by rw [hml]; rfl) [(.int (((p1.toUInt32 >>> ((8 : Int32) &&& 31).toUInt32).toInt32).toInt8.toInt32))] [] rfl (lenOf pd6_0 rfl) rfl (by show 2 * 0 + _ ≤ _; exact Nat.le_of_eq rfl) (hb hby d6_13) (by decide) (by decide) (by decide) (by decide) (by decide) ?_
  rintro T3 L3 _ X3 ⟨rfl, N3_q, K3, -, Fb3, Fl3, V3_q⟩
  have N3 := Fr.app N1 N3_q
  have E_self_3 := E_self_1.keep K3
  have Z_3 : n0 ≤ T3.heap.size := Nat.le_trans Z_1 K3.1
  have KK_3 : Keep h0 T3.heap [self, b] := KK_1.trans K3 (allS (Or.inl (List.mem_of_getElem? (i := 0) rfl)) (allS (Or.inl (List.mem_of_getElem? (i := 1) rfl)) all0))
  show D (T3.setTop (mkF m 16 #[.val (.ref self), .val (.int p1), .val (.int (8 : Int32))] []))
  refine A (XS.iinc X3.here hx rfl (hb hby d6_16) rfl (l' := #[.val (.ref self), .val (.int p1), .val (.int ((8 : Int32) + (8 : Int32)))]) rfl) ?_
  show D (T3.setTop (mkF m 19 #[.val (.ref self), .val (.int p1), .val (.int ((8 : Int32) + (8 : Int32)))] []))
  suffices Kq4 : ∀ q4 : Int32, q4 = (16 : Int32) → D (T3.setTop (mkF m 19 #[.val (.ref self), .val (.int p1), .val (.int q4)] [])) from Kq4 _ (by decide)
  rintro _ rfl
  show D (T3.setTop (mkF m 19 #[.val (.ref self), .val (.int p1), .val (.int (16 : Int32))] []))
  refine A (XS.goto X3.here hx rfl (pc0 := 19) (pc' := 2) rfl (hb hby d6_19) (by decide) (by decide)) ?_
  show D (T3.setTop (mkF m 2 #[.val (.ref self), .val (.int p1), .val (.int (16 : Int32))] []))
  refine A (XS.iloadN X3.here hx rfl (hb hby d6_2) rfl) ?_
  show D (T3.setTop (mkF m 3 #[.val (.ref self), .val (.int p1), .val (.int (16 : Int32))] [(.int (16 : Int32))]))
  refine A (XS.bipush X3.here hx rfl (hb hby d6_3)) ?_
  show D (T3.setTop (mkF m 5 #[.val (.ref self), .val (.int p1), .val (.int (16 : Int32))] [(.int (32 : Int32)), (.int (16 : Int32))]))
  refine A (XS.icmpNo X3.here hx rfl (hb hby d6_5) rfl (tlt (by decide : (16 : Int32) < (32 : Int32))).2.1) ?_
  show D (T3.setTop (mkF m 8 #[.val (.ref self), .val (.int p1), .val (.int (16 : Int32))] []))
  refine A (XS.aloadN X3.here hx rfl (hb hby d6_8) rfl rfl) ?_
  show D (T3.setTop (mkF m 9 #[.val (.ref self), .val (.int p1), .val (.int (16 : Int32))] [(.ref self)]))
  refine A (XS.iloadN X3.here hx rfl (hb hby d6_9) rfl) ?_
  show D (T3.setTop (mkF m 10 #[.val (.ref self), .val (.int p1), .val (.int (16 : Int32))] [(.int p1), (.ref self)]))
  refine A (XS.iloadN X3.here hx rfl (hb hby d6_10) rfl) ?_
  show D (T3.setTop (mkF m 11 #[.val (.ref self), .val (.int p1), .val (.int (16 : Int32))] [(.int (16 : Int32)), (.int p1), (.ref self)]))
  refine A (XS.iushr X3.here hx rfl (hb hby d6_11) rfl) ?_
  show D (T3.setTop (mkF m 12 #[.val (.ref self), .val (.int p1), .val (.int (16 : Int32))] [(.int ((p1.toUInt32 >>> ((16 : Int32) &&& 31).toUInt32).toInt32)), (.ref self)]))
  refine A (XS.i2b X3.here hx rfl (hb hby d6_12) rfl) ?_
  show D (T3.setTop (mkF m 13 #[.val (.ref self), .val (.int p1), .val (.int (16 : Int32))] [(.int (((p1.toUInt32 >>> ((16 : Int32) &&& 31).toUInt32).toInt32).toInt8.toInt32)), (.ref self)]))
  refine Adv.callP A X3 hx hZ hown (hw _ (List.mem_of_getElem? (i := 23) rfl)) (hw _ (List.mem_of_getElem? (i := 24) rfl)) (hw _ (List.mem_of_getElem? (i := 1) rfl)) (hw _ (List.mem_of_getElem? (i := 25) rfl)) (hw _ (List.mem_of_getElem? (i := 2) rfl)) (hw _ (List.mem_of_getElem? (i := 26) rfl)) rfl E_self_3 (rm5 l Z a0 hw [] self (((p1.toUInt32 >>> ((16 : Int32) &&& 31).toUInt32).toInt32).toInt8.toInt32) T3.heap n0 b (own_inc (own_inc len)) (own_w (own_w f k (((p1.toUInt32 >>> ((0 : Int32) &&& 31).toUInt32).toInt32).toInt8.toInt32)) (k + 1) (((p1.toUInt32 >>> ((8 : Int32) &&& 31).toUInt32).toInt32).toInt8.toInt32)) (k + 2) (own_hk (own_hk hk (by omega)) (by omega)) (by omega) Z_3 g_self g_b E_self_3 Fb3 Fl3 V3_q) 0 (g := (mkF m 13 #[.val (.ref self), .val (.int p1), .val (.int (16 : Int32))] [(.int (((p1.toUInt32 >>> ((16 : Int32) &&& 31).toUInt32).toInt32).toInt8.toInt32)), (.ref self)])) rfl (by rw [hml]; rfl) [(.int (((p1.toUInt32 >>> ((16 : Int32) &&& 31).toUInt32).toInt32).toInt8.toInt32))] [] rfl (lenOf pd6_0 rfl) rfl (by show 2 * 0 + _ ≤ _; exact Nat.le_of_eq rfl) (hb hby d6_13) (by decide) (by decide) (by decide) (by decide) (by decide) ?_
  rintro T5 L5 _ X5 ⟨rfl, N5_q, K5, -, Fb5, Fl5, V5_q⟩
  have N5 := Fr.app N3 N5_q
  have E_self_5 := E_self_3.keep K5
  have Z_5 : n0 ≤ T5.heap.size := Nat.le_trans Z_3 K5.1
  have KK_5 : Keep h0 T5.heap [self, b] := KK_3.trans K5 (allS (Or.inl (List.mem_of_getElem? (i := 0) rfl)) (allS (Or.inl (List.mem_of_getElem? (i := 1) rfl)) all0))
  show D (T5.setTop (mkF m 16 #[.val (.ref self), .val (.int p1), .val (.int (16 : Int32))] []))
  refine A (XS.iinc X5.here hx rfl (hb hby d6_16) rfl (l' := #[.val (.ref self), .val (.int p1), .val (.int ((16 : Int32) + (8 : Int32)))]) rfl) ?_
  show D (T5.setTop (mkF m 19 #[.val (.ref self), .val (.int p1), .val (.int ((16 : Int32) + (8 : Int32)))] []))
  suffices Kq6 : ∀ q6 : Int32, q6 = (24 : Int32) → D (T5.setTop (mkF m 19 #[.val (.ref self), .val (.int p1), .val (.int q6)] [])) from Kq6 _ (by decide)
  rintro _ rfl
  show D (T5.setTop (mkF m 19 #[.val (.ref self), .val (.int p1), .val (.int (24 : Int32))] []))
  refine A (XS.goto X5.here hx rfl (pc0 := 19) (pc' := 2) rfl (hb hby d6_19) (by decide) (by decide)) ?_
  show D (T5.setTop (mkF m 2 #[.val (.ref self), .val (.int p1), .val (.int (24 : Int32))] []))
  refine A (XS.iloadN X5.here hx rfl (hb hby d6_2) rfl) ?_
  show D (T5.setTop (mkF m 3 #[.val (.ref self), .val (.int p1), .val (.int (24 : Int32))] [(.int (24 : Int32))]))
  refine A (XS.bipush X5.here hx rfl (hb hby d6_3)) ?_
  show D (T5.setTop (mkF m 5 #[.val (.ref self), .val (.int p1), .val (.int (24 : Int32))] [(.int (32 : Int32)), (.int (24 : Int32))]))
  refine A (XS.icmpNo X5.here hx rfl (hb hby d6_5) rfl (tlt (by decide : (24 : Int32) < (32 : Int32))).2.1) ?_
  show D (T5.setTop (mkF m 8 #[.val (.ref self), .val (.int p1), .val (.int (24 : Int32))] []))
  refine A (XS.aloadN X5.here hx rfl (hb hby d6_8) rfl rfl) ?_
  show D (T5.setTop (mkF m 9 #[.val (.ref self), .val (.int p1), .val (.int (24 : Int32))] [(.ref self)]))
  refine A (XS.iloadN X5.here hx rfl (hb hby d6_9) rfl) ?_
  show D (T5.setTop (mkF m 10 #[.val (.ref self), .val (.int p1), .val (.int (24 : Int32))] [(.int p1), (.ref self)]))
  refine A (XS.iloadN X5.here hx rfl (hb hby d6_10) rfl) ?_
  show D (T5.setTop (mkF m 11 #[.val (.ref self), .val (.int p1), .val (.int (24 : Int32))] [(.int (24 : Int32)), (.int p1), (.ref self)]))
  refine A (XS.iushr X5.here hx rfl (hb hby d6_11) rfl) ?_
  show D (T5.setTop (mkF m 12 #[.val (.ref self), .val (.int p1), .val (.int (24 : Int32))] [(.int ((p1.toUInt32 >>> ((24 : Int32) &&& 31).toUInt32).toInt32)), (.ref self)]))
  refine A (XS.i2b X5.here hx rfl (hb hby d6_12) rfl) ?_
  show D (T5.setTop (mkF m 13 #[.val (.ref self), .val (.int p1), .val (.int (24 : Int32))] [(.int (((p1.toUInt32 >>> ((24 : Int32) &&& 31).toUInt32).toInt32).toInt8.toInt32)), (.ref self)]))
  refine Adv.callP A X5 hx hZ hown (hw _ (List.mem_of_getElem? (i := 23) rfl)) (hw _ (List.mem_of_getElem? (i := 24) rfl)) (hw _ (List.mem_of_getElem? (i := 1) rfl)) (hw _ (List.mem_of_getElem? (i := 25) rfl)) (hw _ (List.mem_of_getElem? (i := 2) rfl)) (hw _ (List.mem_of_getElem? (i := 26) rfl)) rfl E_self_5 (rm5 l Z a0 hw [] self (((p1.toUInt32 >>> ((24 : Int32) &&& 31).toUInt32).toInt32).toInt8.toInt32) T5.heap n0 b (own_inc (own_inc (own_inc len))) (own_w (own_w (own_w f k (((p1.toUInt32 >>> ((0 : Int32) &&& 31).toUInt32).toInt32).toInt8.toInt32)) (k + 1) (((p1.toUInt32 >>> ((8 : Int32) &&& 31).toUInt32).toInt32).toInt8.toInt32)) (k + 2) (((p1.toUInt32 >>> ((16 : Int32) &&& 31).toUInt32).toInt32).toInt8.toInt32)) (k + 3) (own_hk (own_hk (own_hk hk (by omega)) (by omega)) (by omega)) (by omega) Z_5 g_self g_b E_self_5 Fb5 Fl5 V5_q) 0 (g := (mkF m 13 #[.val (.ref self), .val (.int p1), .val (.int (24 : Int32))] [(.int (((p1.toUInt32 >>> ((24 : Int32) &&& 31).toUInt32).toInt32).toInt8.toInt32)), (.ref self)])) rfl (by rw [hml]; rfl) [(.int (((p1.toUInt32 >>> ((24 : Int32) &&& 31).toUInt32).toInt32).toInt8.toInt32))] [] rfl (lenOf pd6_0 rfl) rfl (by show 2 * 0 + _ ≤ _; exact Nat.le_of_eq rfl) (hb hby d6_13) (by decide) (by decide) (by decide) (by decide) (by decide) ?_
  rintro T7 L7 _ X7 ⟨rfl, N7_q, K7, -, Fb7, Fl7, V7_q⟩
  have N7 := Fr.app N5 N7_q
  have E_self_7 := E_self_5.keep K7
  have Z_7 : n0 ≤ T7.heap.size := Nat.le_trans Z_5 K7.1
  have KK_7 : Keep h0 T7.heap [self, b] := KK_5.trans K7 (allS (Or.inl (List.mem_of_getElem? (i := 0) rfl)) (allS (Or.inl (List.mem_of_getElem? (i := 1) rfl)) all0))
  show D (T7.setTop (mkF m 16 #[.val (.ref self), .val (.int p1), .val (.int (24 : Int32))] []))
  refine A (XS.iinc X7.here hx rfl (hb hby d6_16) rfl (l' := #[.val (.ref self), .val (.int p1), .val (.int ((24 : Int32) + (8 : Int32)))]) rfl) ?_
  show D (T7.setTop (mkF m 19 #[.val (.ref self), .val (.int p1), .val (.int ((24 : Int32) + (8 : Int32)))] []))
  suffices Kq8 : ∀ q8 : Int32, q8 = (32 : Int32) → D (T7.setTop (mkF m 19 #[.val (.ref self), .val (.int p1), .val (.int q8)] [])) from Kq8 _ (by decide)
  rintro _ rfl
  show D (T7.setTop (mkF m 19 #[.val (.ref self), .val (.int p1), .val (.int (32 : Int32))] []))
  refine A (XS.goto X7.here hx rfl (pc0 := 19) (pc' := 2) rfl (hb hby d6_19) (by decide) (by decide)) ?_
  show D (T7.setTop (mkF m 2 #[.val (.ref self), .val (.int p1), .val (.int (32 : Int32))] []))
  refine A (XS.iloadN X7.here hx rfl (hb hby d6_2) rfl) ?_
  show D (T7.setTop (mkF m 3 #[.val (.ref self), .val (.int p1), .val (.int (32 : Int32))] [(.int (32 : Int32))]))
  refine A (XS.bipush X7.here hx rfl (hb hby d6_3)) ?_
  show D (T7.setTop (mkF m 5 #[.val (.ref self), .val (.int p1), .val (.int (32 : Int32))] [(.int (32 : Int32)), (.int (32 : Int32))]))
  refine A (XS.icmpYes X7.here hx rfl (pc0 := 5) (pc' := 22) rfl (hb hby d6_5) rfl (flt (by decide : ¬ ((32 : Int32) < (32 : Int32)))).2.1 (by decide) (by decide)) ?_
  show D (T7.setTop (mkF m 22 #[.val (.ref self), .val (.int p1), .val (.int (32 : Int32))] []))
  exact F _ (Jvm.JW.ret X7 hlk (v := none) (fun _ => rfl) (fun fs hr => X7.returnOut hx hrt (hb hby d6_22) hr) rfl ⟨rfl, N7, KK_7, E_self_7, Fb7, Fl7, V7_q⟩ (by decide) (by decide))
theorem d4_0 : decode prog_64_method_17_code 0 = .ok (.aload_n 0, 1) := by decide +kernel
theorem d4_1 : decode prog_64_method_17_code 1 = .ok (.iconst 0, 1) := by decide +kernel
theorem d4_2 : decode prog_64_method_17_code 2 = .ok (.putfield 13, 3) := by decide +kernel
theorem d4_5 : decode prog_64_method_17_code 5 = .ok (.aload_n 0, 1) := by decide +kernel
theorem d4_6 : decode prog_64_method_17_code 6 = .ok (.iload_n 1, 1) := by decide +kernel
theorem d4_7 : decode prog_64_method_17_code 7 = .ok (.invokevirtual 62, 3) := by decide +kernel
theorem d4_10 : decode prog_64_method_17_code 10 = .ok (.return_, 1) := by decide +kernel
theorem pn4 : plainFor (⟨"quoth/store/Record", "start", "(B)V"⟩ : MethodName) = true := by decide +kernel
theorem pd4_0 : parseMethodDescriptor "(B)V" = some ⟨[.byte], none⟩ := by decide +kernel
theorem ef4 (self : Addr) (p1 : Int32) (m : MethodId) : entryFrame m #[(.ref self), (.int p1)] 2 = mkF m 0 #[.val (.ref self), .val (.int p1)] [] := by first | (simp [entryFrame, mkF, argsToLocals, Value.category]; done) | rfl
set_option maxRecDepth 65536 in
set_option maxHeartbeats 40000000 in
theorem rm4 (l : Launch) (Z : State) (a0 : Array Value) (hw : ∀ d ∈ tables_1, d.before a0 Z = true) (ws : List Jvm.Cond) (self : Addr) (p1 : Int32) (h0 : Heap) (n0 : Nat) (b : Addr) (len : Int32) (f : Nat → Int32) (Z0 : n0 ≤ h0.size) (g_self : n0 ≤ self) (g_b : n0 ≤ b) (E_self : Exa Z h0 self "quoth/store/Record") (F_bytes : Fld Z h0 self "quoth/store/Record" "bytes" "[B" (.ref b)) (F_length : Fld Z h0 self "quoth/store/Record" "length" "I" (.int len)) (V_b : ArI Z h0 b .byte 256 f) :
    JMet l Z (⟨"quoth/store/Record", "start", "(B)V"⟩ : MethodName) prog_64_method_17_code 2 none ws ({ frames := 1, cells := 0, slots := 0, locals := 13 } : Room) #[(.ref self), (.int p1)] h0 (fun v h L => v = none ∧ Fr n0 L ∧ Keep h0 h [self, b] ∧ Exa Z h self "quoth/store/Record" ∧ Fld Z h self "quoth/store/Record" "bytes" "[B" (.ref b) ∧ Fld Z h self "quoth/store/Record" "length" "I" (.int (own_inc (0 : Int32))) ∧ ArI Z h b .byte 256 (own_w f 0 p1)) := by
  refine Jvm.JW.body #[.val (.ref self), .val (.int p1)] pn4 (ef4 self p1) ?_
  intro p e s m below meth c T0 D A F X0 hx hZ hby hml hown hnm hrt hlk e0
  refine A (XS.aloadN X0.here hx rfl (hb hby d4_0) rfl rfl) ?_
  show D (T0.setTop (mkF m 1 #[.val (.ref self), .val (.int p1)] [(.ref self)]))
  refine A (XS.iconst X0.here hx rfl (hb hby d4_1)) ?_
  show D (T0.setTop (mkF m 2 #[.val (.ref self), .val (.int p1)] [(.int (0 : Int32)), (.ref self)]))
  obtain ⟨T1, h1, X1, e1, W1, st1⟩ := putF X0 hx hZ hown (host := "") (Or.inl (hw _ (List.mem_of_getElem? (i := 21) rfl))) Via.refl e0 F_length E_self (Or.inl (hw _ (List.mem_of_getElem? (i := 22) rfl))) (hw _ (List.mem_of_getElem? (i := 1) rfl)) (ty := .int) (by decide) rfl rfl (g := (mkF m 2 #[.val (.ref self), .val (.int p1)] [(.int (0 : Int32)), (.ref self)])) rfl rfl (hb hby d4_2)
  have N1 := Fr.snoc X1 (Fr.nil n0) g_self
  have F_length_1 := F_length.same W1
  have E_self_1 := E_self.wr W1
  have F_bytes_1 := F_bytes.other W1 (Or.inr (slot_ne (Or.inl (hw _ (List.mem_of_getElem? (i := 11) rfl))) (Or.inl (hw _ (List.mem_of_getElem? (i := 22) rfl))) (by decide) (t := (.array .byte)) (t' := .int) (by decide) (by decide)))
  have V_b_1 := V_b.other W1 (Ne.symm (ne_ari E_self (hw _ (List.mem_of_getElem? (i := 1) rfl)) V_b))
  have Z_1 : n0 ≤ h1.size := Nat.le_trans Z0 (Nat.le_of_eq W1.size.symm)
  have KK_1 : Keep h0 h1 [self, b] := (Keep.refl h0 [self, b]).wr W1 (Or.inl (List.mem_of_getElem? (i := 0) rfl))
  refine A (st1 _) ?_
  show D (T1.setTop (mkF m 5 #[.val (.ref self), .val (.int p1)] []))
  refine A (XS.aloadN X1.here hx rfl (hb hby d4_5) rfl rfl) ?_
  show D (T1.setTop (mkF m 6 #[.val (.ref self), .val (.int p1)] [(.ref self)]))
  refine A (XS.iloadN X1.here hx rfl (hb hby d4_6) rfl) ?_
  show D (T1.setTop (mkF m 7 #[.val (.ref self), .val (.int p1)] [(.int p1), (.ref self)]))
  refine Adv.callP A X1 hx hZ hown (hw _ (List.mem_of_getElem? (i := 23) rfl)) (hw _ (List.mem_of_getElem? (i := 24) rfl)) (hw _ (List.mem_of_getElem? (i := 1) rfl)) (hw _ (List.mem_of_getElem? (i := 25) rfl)) (hw _ (List.mem_of_getElem? (i := 2) rfl)) (hw _ (List.mem_of_getElem? (i := 26) rfl)) e1 E_self_1 (rm5 l Z a0 hw [] self p1 h1 n0 b (0 : Int32) f 0 (by decide) (by omega) Z_1 g_self g_b E_self_1 F_bytes_1 F_length_1 V_b_1) 0 (g := (mkF m 7 #[.val (.ref self), .val (.int p1)] [(.int p1), (.ref self)])) rfl (by rw [hml]; rfl) [(.int p1)] [] rfl (lenOf pd4_0 rfl) rfl (by show 2 * 0 + _ ≤ _; exact Nat.le_of_eq rfl) (hb hby d4_7) (by decide) (by decide) (by decide) (by decide) (by decide) ?_
  rintro T2 L2 _ X2 ⟨rfl, N2_q, K2, -, Fb2, Fl2, V2_q⟩
  have N2 := Fr.app N1 N2_q
  have E_self_2 := E_self_1.keep K2
  have Z_2 : n0 ≤ T2.heap.size := Nat.le_trans Z_1 K2.1
  have KK_2 : Keep h0 T2.heap [self, b] := KK_1.trans K2 (allS (Or.inl (List.mem_of_getElem? (i := 0) rfl)) (allS (Or.inl (List.mem_of_getElem? (i := 1) rfl)) all0))
  show D (T2.setTop (mkF m 10 #[.val (.ref self), .val (.int p1)] []))
  exact F _ (Jvm.JW.ret X2 hlk (v := none) (fun _ => rfl) (fun fs hr => X2.returnOut hx hrt (hb hby d4_10) hr) rfl ⟨rfl, N2, KK_2, E_self_2, Fb2, Fl2, V2_q⟩ (by decide) (by decide))
theorem own_13 {Z : State} {h : Heap} {a : Addr} (F : Fld Z h a "quoth/store/Record" "length" "I" (.int (own_inc (own_inc (own_inc (own_inc (own_inc (own_inc (own_inc (own_inc (own_inc (own_inc (own_inc (own_inc (own_inc (0 : Int32)))))))))))))))) : Fld Z h a "quoth/store/Record" "length" "I" (.int (13 : Int32)) := F
theorem d3_0 : decode prog_64_method_10_code 0 = .ok (.aload_n 0, 1) := by decide +kernel
theorem d3_1 : decode prog_64_method_10_code 1 = .ok (.bipush 8, 2) := by decide +kernel
theorem d3_3 : decode prog_64_method_10_code 3 = .ok (.invokevirtual 29, 3) := by decide +kernel
theorem d3_6 : decode prog_64_method_10_code 6 = .ok (.aload_n 0, 1) := by decide +kernel
theorem d3_7 : decode prog_64_method_10_code 7 = .ok (.iload_n 1, 1) := by decide +kernel
theorem d3_8 : decode prog_64_method_10_code 8 = .ok (.invokevirtual 43, 3) := by decide +kernel
theorem d3_11 : decode prog_64_method_10_code 11 = .ok (.aload_n 0, 1) := by decide +kernel
theorem d3_12 : decode prog_64_method_10_code 12 = .ok (.iload_n 2, 1) := by decide +kernel
theorem d3_13 : decode prog_64_method_10_code 13 = .ok (.invokevirtual 43, 3) := by decide +kernel
theorem d3_16 : decode prog_64_method_10_code 16 = .ok (.aload_n 0, 1) := by decide +kernel
theorem d3_17 : decode prog_64_method_10_code 17 = .ok (.iload_n 3, 1) := by decide +kernel
theorem d3_18 : decode prog_64_method_10_code 18 = .ok (.invokevirtual 43, 3) := by decide +kernel
theorem d3_21 : decode prog_64_method_10_code 21 = .ok (.return_, 1) := by decide +kernel
theorem pn3 : plainFor (⟨"quoth/store/Record", "triple", "(III)V"⟩ : MethodName) = true := by decide +kernel
theorem pd3_0 : parseMethodDescriptor "(B)V" = some ⟨[.byte], none⟩ := by decide +kernel
theorem pd3_1 : parseMethodDescriptor "(I)V" = some ⟨[.int], none⟩ := by decide +kernel
theorem ef3 (self : Addr) (p1 : Int32) (p2 : Int32) (p3 : Int32) (m : MethodId) : entryFrame m #[(.ref self), (.int p1), (.int p2), (.int p3)] 4 = mkF m 0 #[.val (.ref self), .val (.int p1), .val (.int p2), .val (.int p3)] [] := by first | (simp [entryFrame, mkF, argsToLocals, Value.category]; done) | rfl
set_option maxRecDepth 65536 in
set_option maxHeartbeats 40000000 in
theorem rm3 (l : Launch) (Z : State) (a0 : Array Value) (hw : ∀ d ∈ tables_1, d.before a0 Z = true) (ws : List Jvm.Cond) (self : Addr) (p1 : Int32) (p2 : Int32) (p3 : Int32) (h0 : Heap) (n0 : Nat) (b : Addr) (len : Int32) (f : Nat → Int32) (Z0 : n0 ≤ h0.size) (g_self : n0 ≤ self) (g_b : n0 ≤ b) (E_self : Exa Z h0 self "quoth/store/Record") (F_bytes : Fld Z h0 self "quoth/store/Record" "bytes" "[B" (.ref b)) (F_length : Fld Z h0 self "quoth/store/Record" "length" "I" (.int len)) (V_b : ArI Z h0 b .byte 256 f) :
    JMet l Z (⟨"quoth/store/Record", "triple", "(III)V"⟩ : MethodName) prog_64_method_10_code 4 none ws ({ frames := 2, cells := 0, slots := 0, locals := 27 } : Room) #[(.ref self), (.int p1), (.int p2), (.int p3)] h0 (fun v h L => v = none ∧ Fr n0 L ∧ Keep h0 h [self, b] ∧ Exa Z h self "quoth/store/Record" ∧ Fld Z h self "quoth/store/Record" "bytes" "[B" (.ref b) ∧ Fld Z h self "quoth/store/Record" "length" "I" (.int (13 : Int32)) ∧ ArI Z h b .byte 256 (own_put (own_put (own_put (own_w f 0 (8 : Int32)) 1 p1) 5 p2) 9 p3)) := by
  refine Jvm.JW.body #[.val (.ref self), .val (.int p1), .val (.int p2), .val (.int p3)] pn3 (ef3 self p1 p2 p3) ?_
  intro p e s m below meth c T0 D A F X0 hx hZ hby hml hown hnm hrt hlk e0
  refine A (XS.aloadN X0.here hx rfl (hb hby d3_0) rfl rfl) ?_
  show D (T0.setTop (mkF m 1 #[.val (.ref self), .val (.int p1), .val (.int p2), .val (.int p3)] [(.ref self)]))
  refine A (XS.bipush X0.here hx rfl (hb hby d3_1)) ?_
  show D (T0.setTop (mkF m 3 #[.val (.ref self), .val (.int p1), .val (.int p2), .val (.int p3)] [(.int (8 : Int32)), (.ref self)]))
  refine Adv.callP A X0 hx hZ hown (hw _ (List.mem_of_getElem? (i := 17) rfl)) (hw _ (List.mem_of_getElem? (i := 18) rfl)) (hw _ (List.mem_of_getElem? (i := 1) rfl)) (hw _ (List.mem_of_getElem? (i := 19) rfl)) (hw _ (List.mem_of_getElem? (i := 2) rfl)) (hw _ (List.mem_of_getElem? (i := 20) rfl)) e0 E_self (rm4 l Z a0 hw [] self (8 : Int32) h0 n0 b len f Z0 g_self g_b E_self F_bytes F_length V_b) 0 (g := (mkF m 3 #[.val (.ref self), .val (.int p1), .val (.int p2), .val (.int p3)] [(.int (8 : Int32)), (.ref self)])) rfl (by rw [hml]; rfl) [(.int (8 : Int32))] [] rfl (lenOf pd3_0 rfl) rfl (by show 2 * 0 + _ ≤ _; exact Nat.le_of_eq rfl) (hb hby d3_3) (by decide) (by decide) (by decide) (by decide) (by decide) ?_
  rintro T1 L1 _ X1 ⟨rfl, N1_q, K1, -, Fb1, Fl1, V1_q⟩
  have N1 := Fr.app (Fr.nil n0) N1_q
  have E_self_1 := E_self.keep K1
  have Z_1 : n0 ≤ T1.heap.size := Nat.le_trans Z0 K1.1
  have KK_1 : Keep h0 T1.heap [self, b] := (Keep.refl h0 [self, b]).trans K1 (allS (Or.inl (List.mem_of_getElem? (i := 0) rfl)) (allS (Or.inl (List.mem_of_getElem? (i := 1) rfl)) all0))
  show D (T1.setTop (mkF m 6 #[.val (.ref self), .val (.int p1), .val (.int p2), .val (.int p3)] []))
  refine A (XS.aloadN X1.here hx rfl (hb hby d3_6) rfl rfl) ?_
  show D (T1.setTop (mkF m 7 #[.val (.ref self), .val (.int p1), .val (.int p2), .val (.int p3)] [(.ref self)]))
  refine A (XS.iloadN X1.here hx rfl (hb hby d3_7) rfl) ?_
  show D (T1.setTop (mkF m 8 #[.val (.ref self), .val (.int p1), .val (.int p2), .val (.int p3)] [(.int p1), (.ref self)]))
  refine Adv.callP A X1 hx hZ hown (hw _ (List.mem_of_getElem? (i := 27) rfl)) (hw _ (List.mem_of_getElem? (i := 28) rfl)) (hw _ (List.mem_of_getElem? (i := 1) rfl)) (hw _ (List.mem_of_getElem? (i := 29) rfl)) (hw _ (List.mem_of_getElem? (i := 2) rfl)) (hw _ (List.mem_of_getElem? (i := 30) rfl)) rfl E_self_1 (rm6 l Z a0 hw [] self p1 T1.heap n0 b (own_inc (0 : Int32)) (own_w f 0 (8 : Int32)) 1 (by decide) (by omega) Z_1 g_self g_b E_self_1 Fb1 Fl1 V1_q) 0 (g := (mkF m 8 #[.val (.ref self), .val (.int p1), .val (.int p2), .val (.int p3)] [(.int p1), (.ref self)])) rfl (by rw [hml]; rfl) [(.int p1)] [] rfl (lenOf pd3_1 rfl) rfl (by show 2 * 0 + _ ≤ _; exact Nat.le_of_eq rfl) (hb hby d3_8) (by decide) (by decide) (by decide) (by decide) (by decide) ?_
  rintro T2 L2 _ X2 ⟨rfl, N2_q, K2, -, Fb2, Fl2, V2_q⟩
  have N2 := Fr.app N1 N2_q
  have E_self_2 := E_self_1.keep K2
  have Z_2 : n0 ≤ T2.heap.size := Nat.le_trans Z_1 K2.1
  have KK_2 : Keep h0 T2.heap [self, b] := KK_1.trans K2 (allS (Or.inl (List.mem_of_getElem? (i := 0) rfl)) (allS (Or.inl (List.mem_of_getElem? (i := 1) rfl)) all0))
  show D (T2.setTop (mkF m 11 #[.val (.ref self), .val (.int p1), .val (.int p2), .val (.int p3)] []))
  refine A (XS.aloadN X2.here hx rfl (hb hby d3_11) rfl rfl) ?_
  show D (T2.setTop (mkF m 12 #[.val (.ref self), .val (.int p1), .val (.int p2), .val (.int p3)] [(.ref self)]))
  refine A (XS.iloadN X2.here hx rfl (hb hby d3_12) rfl) ?_
  show D (T2.setTop (mkF m 13 #[.val (.ref self), .val (.int p1), .val (.int p2), .val (.int p3)] [(.int p2), (.ref self)]))
  refine Adv.callP A X2 hx hZ hown (hw _ (List.mem_of_getElem? (i := 27) rfl)) (hw _ (List.mem_of_getElem? (i := 28) rfl)) (hw _ (List.mem_of_getElem? (i := 1) rfl)) (hw _ (List.mem_of_getElem? (i := 29) rfl)) (hw _ (List.mem_of_getElem? (i := 2) rfl)) (hw _ (List.mem_of_getElem? (i := 30) rfl)) rfl E_self_2 (rm6 l Z a0 hw [] self p2 T2.heap n0 b (own_inc (own_inc (own_inc (own_inc (own_inc (0 : Int32)))))) (own_put (own_w f 0 (8 : Int32)) 1 p1) 5 (by decide) (by omega) Z_2 g_self g_b E_self_2 Fb2 Fl2 V2_q) 0 (g := (mkF m 13 #[.val (.ref self), .val (.int p1), .val (.int p2), .val (.int p3)] [(.int p2), (.ref self)])) rfl (by rw [hml]; rfl) [(.int p2)] [] rfl (lenOf pd3_1 rfl) rfl (by show 2 * 0 + _ ≤ _; exact Nat.le_of_eq rfl) (hb hby d3_13) (by decide) (by decide) (by decide) (by decide) (by decide) ?_
  rintro T3 L3 _ X3 ⟨rfl, N3_q, K3, -, Fb3, Fl3, V3_q⟩
  have N3 := Fr.app N2 N3_q
  have E_self_3 := E_self_2.keep K3
  have Z_3 : n0 ≤ T3.heap.size := Nat.le_trans Z_2 K3.1
  have KK_3 : Keep h0 T3.heap [self, b] := KK_2.trans K3 (allS (Or.inl (List.mem_of_getElem? (i := 0) rfl)) (allS (Or.inl (List.mem_of_getElem? (i := 1) rfl)) all0))
  show D (T3.setTop (mkF m 16 #[.val (.ref self), .val (.int p1), .val (.int p2), .val (.int p3)] []))
  refine A (XS.aloadN X3.here hx rfl (hb hby d3_16) rfl rfl) ?_
  show D (T3.setTop (mkF m 17 #[.val (.ref self), .val (.int p1), .val (.int p2), .val (.int p3)] [(.ref self)]))
  refine A (XS.iloadN X3.here hx rfl (hb hby d3_17) rfl) ?_
  show D (T3.setTop (mkF m 18 #[.val (.ref self), .val (.int p1), .val (.int p2), .val (.int p3)] [(.int p3), (.ref self)]))
  refine Adv.callP A X3 hx hZ hown (hw _ (List.mem_of_getElem? (i := 27) rfl)) (hw _ (List.mem_of_getElem? (i := 28) rfl)) (hw _ (List.mem_of_getElem? (i := 1) rfl)) (hw _ (List.mem_of_getElem? (i := 29) rfl)) (hw _ (List.mem_of_getElem? (i := 2) rfl)) (hw _ (List.mem_of_getElem? (i := 30) rfl)) rfl E_self_3 (rm6 l Z a0 hw [] self p3 T3.heap n0 b (own_inc (own_inc (own_inc (own_inc (own_inc (own_inc (own_inc (own_inc (own_inc (0 : Int32)))))))))) (own_put (own_put (own_w f 0 (8 : Int32)) 1 p1) 5 p2) 9 (by decide) (by omega) Z_3 g_self g_b E_self_3 Fb3 Fl3 V3_q) 0 (g := (mkF m 18 #[.val (.ref self), .val (.int p1), .val (.int p2), .val (.int p3)] [(.int p3), (.ref self)])) rfl (by rw [hml]; rfl) [(.int p3)] [] rfl (lenOf pd3_1 rfl) rfl (by show 2 * 0 + _ ≤ _; exact Nat.le_of_eq rfl) (hb hby d3_18) (by decide) (by decide) (by decide) (by decide) (by decide) ?_
  rintro T4 L4 _ X4 ⟨rfl, N4_q, K4, -, Fb4, Fl4, V4_q⟩
  have N4 := Fr.app N3 N4_q
  have E_self_4 := E_self_3.keep K4
  have Z_4 : n0 ≤ T4.heap.size := Nat.le_trans Z_3 K4.1
  have KK_4 : Keep h0 T4.heap [self, b] := KK_3.trans K4 (allS (Or.inl (List.mem_of_getElem? (i := 0) rfl)) (allS (Or.inl (List.mem_of_getElem? (i := 1) rfl)) all0))
  show D (T4.setTop (mkF m 21 #[.val (.ref self), .val (.int p1), .val (.int p2), .val (.int p3)] []))
  exact F _ (Jvm.JW.ret X4 hlk (v := none) (fun _ => rfl) (fun fs hr => X4.returnOut hx hrt (hb hby d3_21) hr) rfl ⟨rfl, N4, KK_4, E_self_4, Fb4, (own_13 Fl4), V4_q⟩ (by decide) (by decide))
theorem d1_0 : decode prog_64_method_1_code 0 = .ok (.aload_n 0, 1) := by decide +kernel
theorem d1_1 : decode prog_64_method_1_code 1 = .ok (.invokespecial 1, 3) := by decide +kernel
theorem d1_4 : decode prog_64_method_1_code 4 = .ok (.aload_n 0, 1) := by decide +kernel
theorem d1_5 : decode prog_64_method_1_code 5 = .ok (.sipush 256, 3) := by decide +kernel
theorem d1_8 : decode prog_64_method_1_code 8 = .ok (.newarray .byte, 2) := by decide +kernel
theorem d1_10 : decode prog_64_method_1_code 10 = .ok (.putfield 7, 3) := by decide +kernel
theorem d1_13 : decode prog_64_method_1_code 13 = .ok (.return_, 1) := by decide +kernel
theorem pn1 : plainFor (⟨"quoth/store/Record", "<init>", "()V"⟩ : MethodName) = true := by decide +kernel
theorem ef1 (self : Addr) (m : MethodId) : entryFrame m #[(.ref self)] 1 = mkF m 0 #[.val (.ref self)] [] := by first | (simp [entryFrame, mkF, argsToLocals, Value.category]; done) | rfl
set_option maxRecDepth 65536 in
set_option maxHeartbeats 40000000 in
theorem rm1 (l : Launch) (Z : State) (a0 : Array Value) (hw : ∀ d ∈ tables_1, d.before a0 Z = true) (ws : List Jvm.Cond) (self : Addr) (h0 : Heap) (n0 : Nat) (Z0 : n0 ≤ h0.size) (g_self : n0 ≤ self) (E_self : Exa Z h0 self "quoth/store/Record") (F_bytes : Fld Z h0 self "quoth/store/Record" "bytes" "[B" .null) (F_length : Fld Z h0 self "quoth/store/Record" "length" "I" (.int (0 : Int32))) :
    JMet l Z (⟨"quoth/store/Record", "<init>", "()V"⟩ : MethodName) prog_64_method_1_code 1 none ws ({ frames := 1, cells := 1, slots := 256, locals := 12 } : Room) #[(.ref self)] h0 (fun v h L => v = none ∧ ∃ b : Addr, Fr n0 L ∧ Keep h0 h [self] ∧ Exa Z h self "quoth/store/Record" ∧ Fld Z h self "quoth/store/Record" "bytes" "[B" (.ref b) ∧ Fld Z h self "quoth/store/Record" "length" "I" (.int (0 : Int32)) ∧ ArI Z h b .byte 256 (fun _ => 0) ∧ h0.size ≤ b) := by
  refine Jvm.JW.body #[.val (.ref self)] pn1 (ef1 self) ?_
  intro p e s m below meth c T0 D A F X0 hx hZ hby hml hown hnm hrt hlk e0
  refine A (XS.aloadN X0.here hx rfl (hb hby d1_0) rfl rfl) ?_
  show D (T0.setTop (mkF m 1 #[.val (.ref self)] [(.ref self)]))
  obtain ⟨T1, X1, e1, st1⟩ := initO X0 hx hZ hown (hw _ (List.mem_of_getElem? (i := 6) rfl)) (hw _ (List.mem_of_getElem? (i := 7) rfl)) (hw _ (List.mem_of_getElem? (i := 8) rfl)) e0 (g := (mkF m 1 #[.val (.ref self)] [(.ref self)])) rfl (by rw [hml]; rfl) rfl (hb hby d1_1) (by decide) (W := 0) (by show 2 * 0 + _ ≤ _; exact Nat.le_of_eq rfl) (by decide)
  refine A (st1 _) ?_
  show D (T1.setTop (mkF m 4 #[.val (.ref self)] []))
  refine A (XS.aloadN X1.here hx rfl (hb hby d1_4) rfl rfl) ?_
  show D (T1.setTop (mkF m 5 #[.val (.ref self)] [(.ref self)]))
  refine A (XS.sipush X1.here hx rfl (hb hby d1_5)) ?_
  show D (T1.setTop (mkF m 8 #[.val (.ref self)] [(.int (256 : Int32)), (.ref self)]))
  refine Adv.newI A X1 hx hZ (aty := .byte) (hw _ (List.mem_of_getElem? (i := 9) rfl)) e1 (n := 256) (by decide) 256 (by decide) (by decide) rfl (ad := "[B") (by decide) (by decide) (by decide) (g := (mkF m 8 #[.val (.ref self)] [(.int (256 : Int32)), (.ref self)])) rfl rfl (hb hby d1_8) ?_
  intro T2 h2 b2 q_b2 X2 e2 E2 V_b2 EA_b2
  have ne_self_b2 : self ≠ b2 := Nat.ne_of_lt (Nat.lt_of_lt_of_le E_self.lt (Nat.le_of_eq q_b2.symm))
  have g_b2 : n0 ≤ b2 := Nat.le_trans Z0 (Nat.le_of_eq q_b2.symm)
  have sz_b2 : h0.size ≤ b2 := Nat.le_trans (Keep.refl h0 [self]).1 (Nat.le_of_eq q_b2.symm)
  have E_self_2 := E_self.ext E2
  have F_bytes_2 := F_bytes.ext E2
  have F_length_2 := F_length.ext E2
  have Z_2 : n0 ≤ h2.size := Nat.le_trans Z0 E2.1
  have KK_2 : Keep h0 h2 [self] := (Keep.refl h0 [self]).ext E2
  show D (T2.setTop (mkF m 10 #[.val (.ref self)] [(.ref b2), (.ref self)]))
  obtain ⟨T3, h3, X3, e3, W3, st3⟩ := putF X2 hx hZ hown (host := "") (Or.inl (hw _ (List.mem_of_getElem? (i := 10) rfl))) Via.refl e2 F_bytes_2 E_self_2 (Or.inl (hw _ (List.mem_of_getElem? (i := 11) rfl))) (hw _ (List.mem_of_getElem? (i := 1) rfl)) (ty := (.array .byte)) (by decide) rfl rfl (g := (mkF m 10 #[.val (.ref self)] [(.ref b2), (.ref self)])) rfl rfl (hb hby d1_10)
  have N3 := Fr.snoc X3 (Fr.nil n0) g_self
  have F_bytes_3 := F_bytes_2.same W3
  have E_self_3 := E_self_2.wr W3
  have F_length_3 := F_length_2.other W3 (Or.inr (slot_ne (Or.inl (hw _ (List.mem_of_getElem? (i := 22) rfl))) (Or.inl (hw _ (List.mem_of_getElem? (i := 11) rfl))) (by decide) (t := .int) (t' := (.array .byte)) (by decide) (by decide)))
  have V_b2_3 := V_b2.other W3 (Ne.symm ne_self_b2)
  have Z_3 : n0 ≤ h3.size := Nat.le_trans Z_2 (Nat.le_of_eq W3.size.symm)
  have KK_3 : Keep h0 h3 [self] := KK_2.wr W3 (Or.inl (List.mem_of_getElem? (i := 0) rfl))
  refine A (st3 _) ?_
  show D (T3.setTop (mkF m 13 #[.val (.ref self)] []))
  exact F _ (Jvm.JW.ret X3 hlk (v := none) (fun _ => rfl) (fun fs hr => X3.returnOut hx hrt (hb hby d1_13) hr) e3 ⟨rfl, b2, N3, KK_3, E_self_3, F_bytes_3, F_length_3, V_b2_3, sz_b2⟩ (by decide) (by decide))
theorem d7_0 : decode prog_64_method_2_code 0 = .ok (.aload_n 0, 1) := by decide +kernel
theorem d7_1 : decode prog_64_method_2_code 1 = .ok (.getfield 7, 3) := by decide +kernel
theorem d7_4 : decode prog_64_method_2_code 4 = .ok (.areturn, 1) := by decide +kernel
theorem pn7 : plainFor (⟨"quoth/store/Record", "bytes", "()[B"⟩ : MethodName) = true := by decide +kernel
theorem ef7 (self : Addr) (m : MethodId) : entryFrame m #[(.ref self)] 1 = mkF m 0 #[.val (.ref self)] [] := by first | (simp [entryFrame, mkF, argsToLocals, Value.category]; done) | rfl
set_option maxRecDepth 65536 in
set_option maxHeartbeats 40000000 in
theorem rm7 (l : Launch) (Z : State) (a0 : Array Value) (hw : ∀ d ∈ tables_1, d.before a0 Z = true) (ws : List Jvm.Cond) (self : Addr) (h0 : Heap) (n0 : Nat) (w : Addr) (F_self : Fld Z h0 self "quoth/store/Record" "bytes" "[B" (.ref w)) :
    JMet l Z (⟨"quoth/store/Record", "bytes", "()[B"⟩ : MethodName) prog_64_method_2_code 1 (some (.array .byte)) ws ({ frames := 0, cells := 0, slots := 0, locals := 0 } : Room) #[(.ref self)] h0 (QP (.ref w) h0 n0) := by
  refine Jvm.JW.body #[.val (.ref self)] pn7 (ef7 self) ?_
  intro p e s m below meth c T0 D A F X0 hx hZ hby hml hown hnm hrt hlk e0
  refine A (XS.aloadN X0.here hx rfl (hb hby d7_0) rfl rfl) ?_
  show D (T0.setTop (mkF m 1 #[.val (.ref self)] [(.ref self)]))
  obtain ⟨T1, X1, e1, st1⟩ := getF X0 hx hZ hown (host := "") (Or.inl (hw _ (List.mem_of_getElem? (i := 10) rfl))) Via.refl e0 F_self (g := (mkF m 1 #[.val (.ref self)] [(.ref self)])) rfl rfl (hb hby d7_1)
  refine A (st1 _) ?_
  show D (T1.setTop (mkF m 4 #[.val (.ref self)] [(.ref w)]))
  refine F _ (Jvm.JW.ret X1 hlk (v := some (.ref w)) (fun h => by rw [hrt] at h; cases h) (fun fs hr => retOut X1 hx hrt rfl (Or.inr (Or.inr (Or.inr (Or.inr ⟨rfl, rfl, rfl⟩)))) (hb hby d7_4) hr) rfl ?_ (by decide) (by decide))
  exact ⟨rfl, (Fr.nil n0), e1⟩
theorem d8_0 : decode prog_64_method_3_code 0 = .ok (.aload_n 0, 1) := by decide +kernel
theorem d8_1 : decode prog_64_method_3_code 1 = .ok (.getfield 13, 3) := by decide +kernel
theorem d8_4 : decode prog_64_method_3_code 4 = .ok (.ireturn, 1) := by decide +kernel
theorem pn8 : plainFor (⟨"quoth/store/Record", "length", "()I"⟩ : MethodName) = true := by decide +kernel
theorem ef8 (self : Addr) (m : MethodId) : entryFrame m #[(.ref self)] 1 = mkF m 0 #[.val (.ref self)] [] := by first | (simp [entryFrame, mkF, argsToLocals, Value.category]; done) | rfl
set_option maxRecDepth 65536 in
set_option maxHeartbeats 40000000 in
theorem rm8 (l : Launch) (Z : State) (a0 : Array Value) (hw : ∀ d ∈ tables_1, d.before a0 Z = true) (ws : List Jvm.Cond) (self : Addr) (h0 : Heap) (n0 : Nat) (w : Int32) (F_self : Fld Z h0 self "quoth/store/Record" "length" "I" (.int w)) :
    JMet l Z (⟨"quoth/store/Record", "length", "()I"⟩ : MethodName) prog_64_method_3_code 1 (some .int) ws ({ frames := 0, cells := 0, slots := 0, locals := 0 } : Room) #[(.ref self)] h0 (QP (.int w) h0 n0) := by
  refine Jvm.JW.body #[.val (.ref self)] pn8 (ef8 self) ?_
  intro p e s m below meth c T0 D A F X0 hx hZ hby hml hown hnm hrt hlk e0
  refine A (XS.aloadN X0.here hx rfl (hb hby d8_0) rfl rfl) ?_
  show D (T0.setTop (mkF m 1 #[.val (.ref self)] [(.ref self)]))
  obtain ⟨T1, X1, e1, st1⟩ := getF X0 hx hZ hown (host := "") (Or.inl (hw _ (List.mem_of_getElem? (i := 21) rfl))) Via.refl e0 F_self (g := (mkF m 1 #[.val (.ref self)] [(.ref self)])) rfl rfl (hb hby d8_1)
  refine A (st1 _) ?_
  show D (T1.setTop (mkF m 4 #[.val (.ref self)] [(.int w)]))
  refine F _ (Jvm.JW.ret X1 hlk (v := some (.int w)) (fun h => by rw [hrt] at h; cases h) (fun fs hr => retOut X1 hx hrt rfl (Or.inl ⟨rfl, Or.inl rfl, _, rfl⟩) (hb hby d8_4) hr) rfl ?_ (by decide) (by decide))
  exact ⟨rfl, (Fr.nil n0), e1⟩
theorem d9_0 : decode method_2_code 0 = .ok (.aload_n 0, 1) := by decide +kernel
theorem d9_1 : decode method_2_code 1 = .ok (.iload_n 1, 1) := by decide +kernel
theorem d9_2 : decode method_2_code 2 = .ok (.baload, 1) := by decide +kernel
theorem d9_3 : decode method_2_code 3 = .ok (.iload_n 2, 1) := by decide +kernel
theorem d9_4 : decode method_2_code 4 = .ok (.i2b, 1) := by decide +kernel
theorem d9_5 : decode method_2_code 5 = .ok (.if_icmp .ne 46, 3) := by decide +kernel
theorem d9_8 : decode method_2_code 8 = .ok (.aload_n 0, 1) := by decide +kernel
theorem d9_9 : decode method_2_code 9 = .ok (.iload_n 1, 1) := by decide +kernel
theorem d9_10 : decode method_2_code 10 = .ok (.iconst 1, 1) := by decide +kernel
theorem d9_11 : decode method_2_code 11 = .ok (.iadd, 1) := by decide +kernel
theorem d9_12 : decode method_2_code 12 = .ok (.baload, 1) := by decide +kernel
theorem d9_13 : decode method_2_code 13 = .ok (.iload_n 2, 1) := by decide +kernel
theorem d9_14 : decode method_2_code 14 = .ok (.bipush 8, 2) := by decide +kernel
theorem d9_16 : decode method_2_code 16 = .ok (.iushr, 1) := by decide +kernel
theorem d9_17 : decode method_2_code 17 = .ok (.i2b, 1) := by decide +kernel
theorem d9_18 : decode method_2_code 18 = .ok (.if_icmp .ne 33, 3) := by decide +kernel
theorem d9_21 : decode method_2_code 21 = .ok (.aload_n 0, 1) := by decide +kernel
theorem d9_22 : decode method_2_code 22 = .ok (.iload_n 1, 1) := by decide +kernel
theorem d9_23 : decode method_2_code 23 = .ok (.iconst 2, 1) := by decide +kernel
theorem d9_24 : decode method_2_code 24 = .ok (.iadd, 1) := by decide +kernel
theorem d9_25 : decode method_2_code 25 = .ok (.baload, 1) := by decide +kernel
theorem d9_26 : decode method_2_code 26 = .ok (.iload_n 2, 1) := by decide +kernel
theorem d9_27 : decode method_2_code 27 = .ok (.bipush 16, 2) := by decide +kernel
theorem d9_29 : decode method_2_code 29 = .ok (.iushr, 1) := by decide +kernel
theorem d9_30 : decode method_2_code 30 = .ok (.i2b, 1) := by decide +kernel
theorem d9_31 : decode method_2_code 31 = .ok (.if_icmp .ne 20, 3) := by decide +kernel
theorem d9_34 : decode method_2_code 34 = .ok (.aload_n 0, 1) := by decide +kernel
theorem d9_35 : decode method_2_code 35 = .ok (.iload_n 1, 1) := by decide +kernel
theorem d9_36 : decode method_2_code 36 = .ok (.iconst 3, 1) := by decide +kernel
theorem d9_37 : decode method_2_code 37 = .ok (.iadd, 1) := by decide +kernel
theorem d9_38 : decode method_2_code 38 = .ok (.baload, 1) := by decide +kernel
theorem d9_39 : decode method_2_code 39 = .ok (.iload_n 2, 1) := by decide +kernel
theorem d9_40 : decode method_2_code 40 = .ok (.bipush 24, 2) := by decide +kernel
theorem d9_42 : decode method_2_code 42 = .ok (.iushr, 1) := by decide +kernel
theorem d9_43 : decode method_2_code 43 = .ok (.i2b, 1) := by decide +kernel
theorem d9_44 : decode method_2_code 44 = .ok (.if_icmp .ne 7, 3) := by decide +kernel
theorem d9_47 : decode method_2_code 47 = .ok (.iconst 1, 1) := by decide +kernel
theorem d9_48 : decode method_2_code 48 = .ok (.goto 4, 3) := by decide +kernel
theorem d9_52 : decode method_2_code 52 = .ok (.ireturn, 1) := by decide +kernel
theorem pn9 : plainFor (⟨"quoth/store/RecordIdPinLaw", "le", "([BII)Z"⟩ : MethodName) = true := by decide +kernel
theorem ef9 (p1 : Addr) (p2 : Int32) (p3 : Int32) (m : MethodId) : entryFrame m #[(.ref p1), (.int p2), (.int p3)] 3 = mkF m 0 #[.val (.ref p1), .val (.int p2), .val (.int p3)] [] := by first | (simp [entryFrame, mkF, argsToLocals, Value.category]; done) | rfl
set_option maxRecDepth 65536 in
set_option maxHeartbeats 40000000 in
theorem rm9 (l : Launch) (Z : State) (a0 : Array Value) (hw : ∀ d ∈ tables_1, d.before a0 Z = true) (ws : List Jvm.Cond) (p1 : Addr) (p2 : Int32) (p3 : Int32) (h0 : Heap) (n0 : Nat) (f : Nat → Int32) (k : Nat) (hk : p2.toInt = k) (hk2 : k + 3 < 256) (V_p1 : ArI Z h0 p1 .byte 256 f) (hf0 : (f k) = (p3.toInt8.toInt32)) (hf1 : (f (k + 1)) = (((p3.toUInt32 >>> ((8 : Int32) &&& 31).toUInt32).toInt32).toInt8.toInt32)) (hf2 : (f (k + 2)) = (((p3.toUInt32 >>> ((16 : Int32) &&& 31).toUInt32).toInt32).toInt8.toInt32)) (hf3 : (f (k + 3)) = (((p3.toUInt32 >>> ((24 : Int32) &&& 31).toUInt32).toInt32).toInt8.toInt32)) :
    JMet l Z (⟨"quoth/store/RecordIdPinLaw", "le", "([BII)Z"⟩ : MethodName) method_2_code 3 (some .boolean) ws ({ frames := 0, cells := 0, slots := 0, locals := 0 } : Room) #[(.ref p1), (.int p2), (.int p3)] h0 (QP (.int (1 : Int32)) h0 n0) := by
  refine Jvm.JW.body #[.val (.ref p1), .val (.int p2), .val (.int p3)] pn9 (ef9 p1 p2 p3) ?_
  intro p e s m below meth c T0 D A F X0 hx hZ hby hml hown hnm hrt hlk e0
  refine A (XS.aloadN X0.here hx rfl (hb hby d9_0) rfl rfl) ?_
  show D (T0.setTop (mkF m 1 #[.val (.ref p1), .val (.int p2), .val (.int p3)] [(.ref p1)]))
  refine A (XS.iloadN X0.here hx rfl (hb hby d9_1) rfl) ?_
  show D (T0.setTop (mkF m 2 #[.val (.ref p1), .val (.int p2), .val (.int p3)] [(.int p2), (.ref p1)]))
  refine Adv.ldB A X0 hx hZ e0 V_p1 (k := k) hk (by omega) (g := (mkF m 2 #[.val (.ref p1), .val (.int p2), .val (.int p3)] [(.int p2), (.ref p1)])) rfl rfl (hb hby d9_2) ?_
  show D (T0.setTop (mkF m 3 #[.val (.ref p1), .val (.int p2), .val (.int p3)] [(.int (f k))]))
  refine A (XS.iloadN X0.here hx rfl (hb hby d9_3) rfl) ?_
  show D (T0.setTop (mkF m 4 #[.val (.ref p1), .val (.int p2), .val (.int p3)] [(.int p3), (.int (f k))]))
  refine A (XS.i2b X0.here hx rfl (hb hby d9_4) rfl) ?_
  show D (T0.setTop (mkF m 5 #[.val (.ref p1), .val (.int p2), .val (.int p3)] [(.int (p3.toInt8.toInt32)), (.int (f k))]))
  refine A (XS.icmpNo X0.here hx rfl (hb hby d9_5) rfl (teq hf0).2) ?_
  show D (T0.setTop (mkF m 8 #[.val (.ref p1), .val (.int p2), .val (.int p3)] []))
  refine A (XS.aloadN X0.here hx rfl (hb hby d9_8) rfl rfl) ?_
  show D (T0.setTop (mkF m 9 #[.val (.ref p1), .val (.int p2), .val (.int p3)] [(.ref p1)]))
  refine A (XS.iloadN X0.here hx rfl (hb hby d9_9) rfl) ?_
  show D (T0.setTop (mkF m 10 #[.val (.ref p1), .val (.int p2), .val (.int p3)] [(.int p2), (.ref p1)]))
  refine A (XS.iconst X0.here hx rfl (hb hby d9_10)) ?_
  show D (T0.setTop (mkF m 11 #[.val (.ref p1), .val (.int p2), .val (.int p3)] [(.int (1 : Int32)), (.int p2), (.ref p1)]))
  refine A (XS.iadd X0.here hx rfl (hb hby d9_11) rfl) ?_
  show D (T0.setTop (mkF m 12 #[.val (.ref p1), .val (.int p2), .val (.int p3)] [(.int (p2 + (1 : Int32))), (.ref p1)]))
  refine Adv.ldB A X0 hx hZ e0 V_p1 (k := (k + 1)) (ixadd hk (by decide) (by omega)) (by omega) (g := (mkF m 12 #[.val (.ref p1), .val (.int p2), .val (.int p3)] [(.int (p2 + (1 : Int32))), (.ref p1)])) rfl rfl (hb hby d9_12) ?_
  show D (T0.setTop (mkF m 13 #[.val (.ref p1), .val (.int p2), .val (.int p3)] [(.int (f (k + 1)))]))
  refine A (XS.iloadN X0.here hx rfl (hb hby d9_13) rfl) ?_
  show D (T0.setTop (mkF m 14 #[.val (.ref p1), .val (.int p2), .val (.int p3)] [(.int p3), (.int (f (k + 1)))]))
  refine A (XS.bipush X0.here hx rfl (hb hby d9_14)) ?_
  show D (T0.setTop (mkF m 16 #[.val (.ref p1), .val (.int p2), .val (.int p3)] [(.int (8 : Int32)), (.int p3), (.int (f (k + 1)))]))
  refine A (XS.iushr X0.here hx rfl (hb hby d9_16) rfl) ?_
  show D (T0.setTop (mkF m 17 #[.val (.ref p1), .val (.int p2), .val (.int p3)] [(.int ((p3.toUInt32 >>> ((8 : Int32) &&& 31).toUInt32).toInt32)), (.int (f (k + 1)))]))
  refine A (XS.i2b X0.here hx rfl (hb hby d9_17) rfl) ?_
  show D (T0.setTop (mkF m 18 #[.val (.ref p1), .val (.int p2), .val (.int p3)] [(.int (((p3.toUInt32 >>> ((8 : Int32) &&& 31).toUInt32).toInt32).toInt8.toInt32)), (.int (f (k + 1)))]))
  refine A (XS.icmpNo X0.here hx rfl (hb hby d9_18) rfl (teq hf1).2) ?_
  show D (T0.setTop (mkF m 21 #[.val (.ref p1), .val (.int p2), .val (.int p3)] []))
  refine A (XS.aloadN X0.here hx rfl (hb hby d9_21) rfl rfl) ?_
  show D (T0.setTop (mkF m 22 #[.val (.ref p1), .val (.int p2), .val (.int p3)] [(.ref p1)]))
  refine A (XS.iloadN X0.here hx rfl (hb hby d9_22) rfl) ?_
  show D (T0.setTop (mkF m 23 #[.val (.ref p1), .val (.int p2), .val (.int p3)] [(.int p2), (.ref p1)]))
  refine A (XS.iconst X0.here hx rfl (hb hby d9_23)) ?_
  show D (T0.setTop (mkF m 24 #[.val (.ref p1), .val (.int p2), .val (.int p3)] [(.int (2 : Int32)), (.int p2), (.ref p1)]))
  refine A (XS.iadd X0.here hx rfl (hb hby d9_24) rfl) ?_
  show D (T0.setTop (mkF m 25 #[.val (.ref p1), .val (.int p2), .val (.int p3)] [(.int (p2 + (2 : Int32))), (.ref p1)]))
  refine Adv.ldB A X0 hx hZ e0 V_p1 (k := (k + 2)) (ixadd hk (by decide) (by omega)) (by omega) (g := (mkF m 25 #[.val (.ref p1), .val (.int p2), .val (.int p3)] [(.int (p2 + (2 : Int32))), (.ref p1)])) rfl rfl (hb hby d9_25) ?_
  show D (T0.setTop (mkF m 26 #[.val (.ref p1), .val (.int p2), .val (.int p3)] [(.int (f (k + 2)))]))
  refine A (XS.iloadN X0.here hx rfl (hb hby d9_26) rfl) ?_
  show D (T0.setTop (mkF m 27 #[.val (.ref p1), .val (.int p2), .val (.int p3)] [(.int p3), (.int (f (k + 2)))]))
  refine A (XS.bipush X0.here hx rfl (hb hby d9_27)) ?_
  show D (T0.setTop (mkF m 29 #[.val (.ref p1), .val (.int p2), .val (.int p3)] [(.int (16 : Int32)), (.int p3), (.int (f (k + 2)))]))
  refine A (XS.iushr X0.here hx rfl (hb hby d9_29) rfl) ?_
  show D (T0.setTop (mkF m 30 #[.val (.ref p1), .val (.int p2), .val (.int p3)] [(.int ((p3.toUInt32 >>> ((16 : Int32) &&& 31).toUInt32).toInt32)), (.int (f (k + 2)))]))
  refine A (XS.i2b X0.here hx rfl (hb hby d9_30) rfl) ?_
  show D (T0.setTop (mkF m 31 #[.val (.ref p1), .val (.int p2), .val (.int p3)] [(.int (((p3.toUInt32 >>> ((16 : Int32) &&& 31).toUInt32).toInt32).toInt8.toInt32)), (.int (f (k + 2)))]))
  refine A (XS.icmpNo X0.here hx rfl (hb hby d9_31) rfl (teq hf2).2) ?_
  show D (T0.setTop (mkF m 34 #[.val (.ref p1), .val (.int p2), .val (.int p3)] []))
  refine A (XS.aloadN X0.here hx rfl (hb hby d9_34) rfl rfl) ?_
  show D (T0.setTop (mkF m 35 #[.val (.ref p1), .val (.int p2), .val (.int p3)] [(.ref p1)]))
  refine A (XS.iloadN X0.here hx rfl (hb hby d9_35) rfl) ?_
  show D (T0.setTop (mkF m 36 #[.val (.ref p1), .val (.int p2), .val (.int p3)] [(.int p2), (.ref p1)]))
  refine A (XS.iconst X0.here hx rfl (hb hby d9_36)) ?_
  show D (T0.setTop (mkF m 37 #[.val (.ref p1), .val (.int p2), .val (.int p3)] [(.int (3 : Int32)), (.int p2), (.ref p1)]))
  refine A (XS.iadd X0.here hx rfl (hb hby d9_37) rfl) ?_
  show D (T0.setTop (mkF m 38 #[.val (.ref p1), .val (.int p2), .val (.int p3)] [(.int (p2 + (3 : Int32))), (.ref p1)]))
  refine Adv.ldB A X0 hx hZ e0 V_p1 (k := (k + 3)) (ixadd hk (by decide) (by omega)) (by omega) (g := (mkF m 38 #[.val (.ref p1), .val (.int p2), .val (.int p3)] [(.int (p2 + (3 : Int32))), (.ref p1)])) rfl rfl (hb hby d9_38) ?_
  show D (T0.setTop (mkF m 39 #[.val (.ref p1), .val (.int p2), .val (.int p3)] [(.int (f (k + 3)))]))
  refine A (XS.iloadN X0.here hx rfl (hb hby d9_39) rfl) ?_
  show D (T0.setTop (mkF m 40 #[.val (.ref p1), .val (.int p2), .val (.int p3)] [(.int p3), (.int (f (k + 3)))]))
  refine A (XS.bipush X0.here hx rfl (hb hby d9_40)) ?_
  show D (T0.setTop (mkF m 42 #[.val (.ref p1), .val (.int p2), .val (.int p3)] [(.int (24 : Int32)), (.int p3), (.int (f (k + 3)))]))
  refine A (XS.iushr X0.here hx rfl (hb hby d9_42) rfl) ?_
  show D (T0.setTop (mkF m 43 #[.val (.ref p1), .val (.int p2), .val (.int p3)] [(.int ((p3.toUInt32 >>> ((24 : Int32) &&& 31).toUInt32).toInt32)), (.int (f (k + 3)))]))
  refine A (XS.i2b X0.here hx rfl (hb hby d9_43) rfl) ?_
  show D (T0.setTop (mkF m 44 #[.val (.ref p1), .val (.int p2), .val (.int p3)] [(.int (((p3.toUInt32 >>> ((24 : Int32) &&& 31).toUInt32).toInt32).toInt8.toInt32)), (.int (f (k + 3)))]))
  refine A (XS.icmpNo X0.here hx rfl (hb hby d9_44) rfl (teq hf3).2) ?_
  show D (T0.setTop (mkF m 47 #[.val (.ref p1), .val (.int p2), .val (.int p3)] []))
  refine A (XS.iconst X0.here hx rfl (hb hby d9_47)) ?_
  show D (T0.setTop (mkF m 48 #[.val (.ref p1), .val (.int p2), .val (.int p3)] [(.int (1 : Int32))]))
  refine A (XS.goto X0.here hx rfl (pc0 := 48) (pc' := 52) rfl (hb hby d9_48) (by decide) (by decide)) ?_
  show D (T0.setTop (mkF m 52 #[.val (.ref p1), .val (.int p2), .val (.int p3)] [(.int (1 : Int32))]))
  refine F _ (Jvm.JW.ret X0 hlk (v := some (.int (1 : Int32))) (fun h => by rw [hrt] at h; cases h) (fun fs hr => retOut X0 hx hrt rfl (Or.inl ⟨rfl, Or.inr (Or.inl rfl), _, rfl⟩) (hb hby d9_52) hr) rfl ?_ (by decide) (by decide))
  exact ⟨rfl, (Fr.nil n0), e0⟩
theorem own_nn (x : Int32) : x.toInt8.toInt32.toInt8.toInt32 = x.toInt8.toInt32 := by
  have a := c_i2b x
  have b := c_i2b x.toInt8.toInt32
  apply Int32.toInt_inj.mp
  omega
theorem own_u0 (x : Int32) : ((x.toUInt32 >>> ((0 : Int32) &&& 31).toUInt32).toInt32) = x := by
  apply Int32.toBitVec_inj.mp
  rw [show ((0 : Int32) &&& 31).toUInt32 = 0 from by decide]
  show x.toBitVec >>> ((0 : BitVec 32) % 32) = _
  simp
theorem own_t1_0 (s p o : Int32) : (own_T s p o 1) = (s.toInt8.toInt32) := by
  show ((((s.toUInt32 >>> ((0 : Int32) &&& 31).toUInt32).toInt32).toInt8.toInt32).toInt8.toInt32) = _
  rw [own_nn, own_u0]
theorem own_t1_1 (s p o : Int32) : (own_T s p o 2) = (((s.toUInt32 >>> ((8 : Int32) &&& 31).toUInt32).toInt32).toInt8.toInt32) := by
  show ((((s.toUInt32 >>> ((8 : Int32) &&& 31).toUInt32).toInt32).toInt8.toInt32).toInt8.toInt32) = _
  rw [own_nn]
theorem own_t1_2 (s p o : Int32) : (own_T s p o 3) = (((s.toUInt32 >>> ((16 : Int32) &&& 31).toUInt32).toInt32).toInt8.toInt32) := by
  show ((((s.toUInt32 >>> ((16 : Int32) &&& 31).toUInt32).toInt32).toInt8.toInt32).toInt8.toInt32) = _
  rw [own_nn]
theorem own_t1_3 (s p o : Int32) : (own_T s p o 4) = (((s.toUInt32 >>> ((24 : Int32) &&& 31).toUInt32).toInt32).toInt8.toInt32) := by
  show ((((s.toUInt32 >>> ((24 : Int32) &&& 31).toUInt32).toInt32).toInt8.toInt32).toInt8.toInt32) = _
  rw [own_nn]
theorem own_t5_0 (s p o : Int32) : (own_T s p o 5) = (p.toInt8.toInt32) := by
  show ((((p.toUInt32 >>> ((0 : Int32) &&& 31).toUInt32).toInt32).toInt8.toInt32).toInt8.toInt32) = _
  rw [own_nn, own_u0]
theorem own_t5_1 (s p o : Int32) : (own_T s p o 6) = (((p.toUInt32 >>> ((8 : Int32) &&& 31).toUInt32).toInt32).toInt8.toInt32) := by
  show ((((p.toUInt32 >>> ((8 : Int32) &&& 31).toUInt32).toInt32).toInt8.toInt32).toInt8.toInt32) = _
  rw [own_nn]
theorem own_t5_2 (s p o : Int32) : (own_T s p o 7) = (((p.toUInt32 >>> ((16 : Int32) &&& 31).toUInt32).toInt32).toInt8.toInt32) := by
  show ((((p.toUInt32 >>> ((16 : Int32) &&& 31).toUInt32).toInt32).toInt8.toInt32).toInt8.toInt32) = _
  rw [own_nn]
theorem own_t5_3 (s p o : Int32) : (own_T s p o 8) = (((p.toUInt32 >>> ((24 : Int32) &&& 31).toUInt32).toInt32).toInt8.toInt32) := by
  show ((((p.toUInt32 >>> ((24 : Int32) &&& 31).toUInt32).toInt32).toInt8.toInt32).toInt8.toInt32) = _
  rw [own_nn]
theorem own_t9_0 (s p o : Int32) : (own_T s p o 9) = (o.toInt8.toInt32) := by
  show ((((o.toUInt32 >>> ((0 : Int32) &&& 31).toUInt32).toInt32).toInt8.toInt32).toInt8.toInt32) = _
  rw [own_nn, own_u0]
theorem own_t9_1 (s p o : Int32) : (own_T s p o 10) = (((o.toUInt32 >>> ((8 : Int32) &&& 31).toUInt32).toInt32).toInt8.toInt32) := by
  show ((((o.toUInt32 >>> ((8 : Int32) &&& 31).toUInt32).toInt32).toInt8.toInt32).toInt8.toInt32) = _
  rw [own_nn]
theorem own_t9_2 (s p o : Int32) : (own_T s p o 11) = (((o.toUInt32 >>> ((16 : Int32) &&& 31).toUInt32).toInt32).toInt8.toInt32) := by
  show ((((o.toUInt32 >>> ((16 : Int32) &&& 31).toUInt32).toInt32).toInt8.toInt32).toInt8.toInt32) = _
  rw [own_nn]
theorem own_t9_3 (s p o : Int32) : (own_T s p o 12) = (((o.toUInt32 >>> ((24 : Int32) &&& 31).toUInt32).toInt32).toInt8.toInt32) := by
  show ((((o.toUInt32 >>> ((24 : Int32) &&& 31).toUInt32).toInt32).toInt8.toInt32).toInt8.toInt32) = _
  rw [own_nn]
theorem d10_0 : decode prog_64_method_13_code 0 = .ok (.iconst 1, 1) := by decide +kernel
theorem d10_1 : decode prog_64_method_13_code 1 = .ok (.iconst 4, 1) := by decide +kernel
theorem d10_2 : decode prog_64_method_13_code 2 = .ok (.iload_n 1, 1) := by decide +kernel
theorem d10_3 : decode prog_64_method_13_code 3 = .ok (.imul, 1) := by decide +kernel
theorem d10_4 : decode prog_64_method_13_code 4 = .ok (.iadd, 1) := by decide +kernel
theorem d10_5 : decode prog_64_method_13_code 5 = .ok (.istore_n 2, 1) := by decide +kernel
theorem d10_6 : decode prog_64_method_13_code 6 = .ok (.aload_n 0, 1) := by decide +kernel
theorem d10_7 : decode prog_64_method_13_code 7 = .ok (.getfield 7, 3) := by decide +kernel
theorem d10_10 : decode prog_64_method_13_code 10 = .ok (.iload_n 2, 1) := by decide +kernel
theorem d10_11 : decode prog_64_method_13_code 11 = .ok (.baload, 1) := by decide +kernel
theorem d10_12 : decode prog_64_method_13_code 12 = .ok (.sipush 255, 3) := by decide +kernel
theorem d10_15 : decode prog_64_method_13_code 15 = .ok (.iand, 1) := by decide +kernel
theorem d10_16 : decode prog_64_method_13_code 16 = .ok (.aload_n 0, 1) := by decide +kernel
theorem d10_17 : decode prog_64_method_13_code 17 = .ok (.getfield 7, 3) := by decide +kernel
theorem d10_20 : decode prog_64_method_13_code 20 = .ok (.iload_n 2, 1) := by decide +kernel
theorem d10_21 : decode prog_64_method_13_code 21 = .ok (.iconst 1, 1) := by decide +kernel
theorem d10_22 : decode prog_64_method_13_code 22 = .ok (.iadd, 1) := by decide +kernel
theorem d10_23 : decode prog_64_method_13_code 23 = .ok (.baload, 1) := by decide +kernel
theorem d10_24 : decode prog_64_method_13_code 24 = .ok (.sipush 255, 3) := by decide +kernel
theorem d10_27 : decode prog_64_method_13_code 27 = .ok (.iand, 1) := by decide +kernel
theorem d10_28 : decode prog_64_method_13_code 28 = .ok (.bipush 8, 2) := by decide +kernel
theorem d10_30 : decode prog_64_method_13_code 30 = .ok (.ishl, 1) := by decide +kernel
theorem d10_31 : decode prog_64_method_13_code 31 = .ok (.ior, 1) := by decide +kernel
theorem d10_32 : decode prog_64_method_13_code 32 = .ok (.aload_n 0, 1) := by decide +kernel
theorem d10_33 : decode prog_64_method_13_code 33 = .ok (.getfield 7, 3) := by decide +kernel
theorem d10_36 : decode prog_64_method_13_code 36 = .ok (.iload_n 2, 1) := by decide +kernel
theorem d10_37 : decode prog_64_method_13_code 37 = .ok (.iconst 2, 1) := by decide +kernel
theorem d10_38 : decode prog_64_method_13_code 38 = .ok (.iadd, 1) := by decide +kernel
theorem d10_39 : decode prog_64_method_13_code 39 = .ok (.baload, 1) := by decide +kernel
theorem d10_40 : decode prog_64_method_13_code 40 = .ok (.sipush 255, 3) := by decide +kernel
theorem d10_43 : decode prog_64_method_13_code 43 = .ok (.iand, 1) := by decide +kernel
theorem d10_44 : decode prog_64_method_13_code 44 = .ok (.bipush 16, 2) := by decide +kernel
theorem d10_46 : decode prog_64_method_13_code 46 = .ok (.ishl, 1) := by decide +kernel
theorem d10_47 : decode prog_64_method_13_code 47 = .ok (.ior, 1) := by decide +kernel
theorem d10_48 : decode prog_64_method_13_code 48 = .ok (.aload_n 0, 1) := by decide +kernel
theorem d10_49 : decode prog_64_method_13_code 49 = .ok (.getfield 7, 3) := by decide +kernel
theorem d10_52 : decode prog_64_method_13_code 52 = .ok (.iload_n 2, 1) := by decide +kernel
theorem d10_53 : decode prog_64_method_13_code 53 = .ok (.iconst 3, 1) := by decide +kernel
theorem d10_54 : decode prog_64_method_13_code 54 = .ok (.iadd, 1) := by decide +kernel
theorem d10_55 : decode prog_64_method_13_code 55 = .ok (.baload, 1) := by decide +kernel
theorem d10_56 : decode prog_64_method_13_code 56 = .ok (.bipush 24, 2) := by decide +kernel
theorem d10_58 : decode prog_64_method_13_code 58 = .ok (.ishl, 1) := by decide +kernel
theorem d10_59 : decode prog_64_method_13_code 59 = .ok (.ior, 1) := by decide +kernel
theorem d10_60 : decode prog_64_method_13_code 60 = .ok (.ireturn, 1) := by decide +kernel
theorem pn10 : plainFor (⟨"quoth/store/Record", "id", "(I)I"⟩ : MethodName) = true := by decide +kernel
theorem ef10_0 (self : Addr) (m : MethodId) : entryFrame m #[(.ref self), (.int (0 : Int32))] 3 = mkF m 0 #[.val (.ref self), .val (.int (0 : Int32)), .unset] [] := by first | (simp [entryFrame, mkF, argsToLocals, Value.category]; done) | rfl
set_option maxRecDepth 65536 in
set_option maxHeartbeats 40000000 in
theorem rm10_0 (l : Launch) (Z : State) (a0 : Array Value) (hw : ∀ d ∈ tables_1, d.before a0 Z = true) (ws : List Jvm.Cond) (self : Addr) (h0 : Heap) (n0 : Nat) (b : Addr) (f : Nat → Int32) (F_bytes : Fld Z h0 self "quoth/store/Record" "bytes" "[B" (.ref b)) (V_b : ArI Z h0 b .byte 256 f) :
    JMet l Z (⟨"quoth/store/Record", "id", "(I)I"⟩ : MethodName) prog_64_method_13_code 3 (some .int) ws ({ frames := 0, cells := 0, slots := 0, locals := 0 } : Room) #[(.ref self), (.int (0 : Int32))] h0 (QP (.int (((((f 1) &&& (255 : Int32)) ||| (((f 2) &&& (255 : Int32)) <<< ((8 : Int32) &&& 31))) ||| (((f 3) &&& (255 : Int32)) <<< ((16 : Int32) &&& 31))) ||| ((f 4) <<< ((24 : Int32) &&& 31)))) h0 n0) := by
  refine Jvm.JW.body #[.val (.ref self), .val (.int (0 : Int32)), .unset] pn10 (ef10_0 self) ?_
  intro p e s m below meth c T0 D A F X0 hx hZ hby hml hown hnm hrt hlk e0
  refine A (XS.iconst X0.here hx rfl (hb hby d10_0)) ?_
  show D (T0.setTop (mkF m 1 #[.val (.ref self), .val (.int (0 : Int32)), .unset] [(.int (1 : Int32))]))
  refine A (XS.iconst X0.here hx rfl (hb hby d10_1)) ?_
  show D (T0.setTop (mkF m 2 #[.val (.ref self), .val (.int (0 : Int32)), .unset] [(.int (4 : Int32)), (.int (1 : Int32))]))
  refine A (XS.iloadN X0.here hx rfl (hb hby d10_2) rfl) ?_
  show D (T0.setTop (mkF m 3 #[.val (.ref self), .val (.int (0 : Int32)), .unset] [(.int (0 : Int32)), (.int (4 : Int32)), (.int (1 : Int32))]))
  refine A (XS.imul X0.here hx rfl (hb hby d10_3) rfl) ?_
  show D (T0.setTop (mkF m 4 #[.val (.ref self), .val (.int (0 : Int32)), .unset] [(.int ((4 : Int32) * (0 : Int32))), (.int (1 : Int32))]))
  suffices Kq1 : ∀ q1 : Int32, q1 = (0 : Int32) → D (T0.setTop (mkF m 4 #[.val (.ref self), .val (.int (0 : Int32)), .unset] [(.int q1), (.int (1 : Int32))])) from Kq1 _ (by decide)
  rintro _ rfl
  show D (T0.setTop (mkF m 4 #[.val (.ref self), .val (.int (0 : Int32)), .unset] [(.int (0 : Int32)), (.int (1 : Int32))]))
  refine A (XS.iadd X0.here hx rfl (hb hby d10_4) rfl) ?_
  show D (T0.setTop (mkF m 5 #[.val (.ref self), .val (.int (0 : Int32)), .unset] [(.int ((1 : Int32) + (0 : Int32)))]))
  suffices Kq2 : ∀ q2 : Int32, q2 = (1 : Int32) → D (T0.setTop (mkF m 5 #[.val (.ref self), .val (.int (0 : Int32)), .unset] [(.int q2)])) from Kq2 _ (by decide)
  rintro _ rfl
  show D (T0.setTop (mkF m 5 #[.val (.ref self), .val (.int (0 : Int32)), .unset] [(.int (1 : Int32))]))
  refine A (XS.istoreN X0.here hx rfl (hb hby d10_5) rfl (l' := #[.val (.ref self), .val (.int (0 : Int32)), .val (.int (1 : Int32))]) rfl) ?_
  show D (T0.setTop (mkF m 6 #[.val (.ref self), .val (.int (0 : Int32)), .val (.int (1 : Int32))] []))
  refine A (XS.aloadN X0.here hx rfl (hb hby d10_6) rfl rfl) ?_
  show D (T0.setTop (mkF m 7 #[.val (.ref self), .val (.int (0 : Int32)), .val (.int (1 : Int32))] [(.ref self)]))
  obtain ⟨T3, X3, e3, st3⟩ := getF X0 hx hZ hown (host := "") (Or.inl (hw _ (List.mem_of_getElem? (i := 10) rfl))) Via.refl e0 F_bytes (g := (mkF m 7 #[.val (.ref self), .val (.int (0 : Int32)), .val (.int (1 : Int32))] [(.ref self)])) rfl rfl (hb hby d10_7)
  refine A (st3 _) ?_
  show D (T3.setTop (mkF m 10 #[.val (.ref self), .val (.int (0 : Int32)), .val (.int (1 : Int32))] [(.ref b)]))
  refine A (XS.iloadN X3.here hx rfl (hb hby d10_10) rfl) ?_
  show D (T3.setTop (mkF m 11 #[.val (.ref self), .val (.int (0 : Int32)), .val (.int (1 : Int32))] [(.int (1 : Int32)), (.ref b)]))
  refine Adv.ldB A X3 hx hZ e3 V_b (k := 1) (by decide) (by decide) (g := (mkF m 11 #[.val (.ref self), .val (.int (0 : Int32)), .val (.int (1 : Int32))] [(.int (1 : Int32)), (.ref b)])) rfl rfl (hb hby d10_11) ?_
  show D (T3.setTop (mkF m 12 #[.val (.ref self), .val (.int (0 : Int32)), .val (.int (1 : Int32))] [(.int (f 1))]))
  refine A (XS.sipush X3.here hx rfl (hb hby d10_12)) ?_
  show D (T3.setTop (mkF m 15 #[.val (.ref self), .val (.int (0 : Int32)), .val (.int (1 : Int32))] [(.int (255 : Int32)), (.int (f 1))]))
  refine A (XS.iand X3.here hx rfl (hb hby d10_15) rfl) ?_
  show D (T3.setTop (mkF m 16 #[.val (.ref self), .val (.int (0 : Int32)), .val (.int (1 : Int32))] [(.int ((f 1) &&& (255 : Int32)))]))
  refine A (XS.aloadN X3.here hx rfl (hb hby d10_16) rfl rfl) ?_
  show D (T3.setTop (mkF m 17 #[.val (.ref self), .val (.int (0 : Int32)), .val (.int (1 : Int32))] [(.ref self), (.int ((f 1) &&& (255 : Int32)))]))
  obtain ⟨T4, X4, e4, st4⟩ := getF X3 hx hZ hown (host := "") (Or.inl (hw _ (List.mem_of_getElem? (i := 10) rfl))) Via.refl e3 F_bytes (g := (mkF m 17 #[.val (.ref self), .val (.int (0 : Int32)), .val (.int (1 : Int32))] [(.ref self), (.int ((f 1) &&& (255 : Int32)))])) rfl rfl (hb hby d10_17)
  refine A (st4 _) ?_
  show D (T4.setTop (mkF m 20 #[.val (.ref self), .val (.int (0 : Int32)), .val (.int (1 : Int32))] [(.ref b), (.int ((f 1) &&& (255 : Int32)))]))
  refine A (XS.iloadN X4.here hx rfl (hb hby d10_20) rfl) ?_
  show D (T4.setTop (mkF m 21 #[.val (.ref self), .val (.int (0 : Int32)), .val (.int (1 : Int32))] [(.int (1 : Int32)), (.ref b), (.int ((f 1) &&& (255 : Int32)))]))
  refine A (XS.iconst X4.here hx rfl (hb hby d10_21)) ?_
  show D (T4.setTop (mkF m 22 #[.val (.ref self), .val (.int (0 : Int32)), .val (.int (1 : Int32))] [(.int (1 : Int32)), (.int (1 : Int32)), (.ref b), (.int ((f 1) &&& (255 : Int32)))]))
  refine A (XS.iadd X4.here hx rfl (hb hby d10_22) rfl) ?_
  show D (T4.setTop (mkF m 23 #[.val (.ref self), .val (.int (0 : Int32)), .val (.int (1 : Int32))] [(.int ((1 : Int32) + (1 : Int32))), (.ref b), (.int ((f 1) &&& (255 : Int32)))]))
  suffices Kq5 : ∀ q5 : Int32, q5 = (2 : Int32) → D (T4.setTop (mkF m 23 #[.val (.ref self), .val (.int (0 : Int32)), .val (.int (1 : Int32))] [(.int q5), (.ref b), (.int ((f 1) &&& (255 : Int32)))])) from Kq5 _ (by decide)
  rintro _ rfl
  show D (T4.setTop (mkF m 23 #[.val (.ref self), .val (.int (0 : Int32)), .val (.int (1 : Int32))] [(.int (2 : Int32)), (.ref b), (.int ((f 1) &&& (255 : Int32)))]))
  refine Adv.ldB A X4 hx hZ e4 V_b (k := 2) (by decide) (by decide) (g := (mkF m 23 #[.val (.ref self), .val (.int (0 : Int32)), .val (.int (1 : Int32))] [(.int (2 : Int32)), (.ref b), (.int ((f 1) &&& (255 : Int32)))])) rfl rfl (hb hby d10_23) ?_
  show D (T4.setTop (mkF m 24 #[.val (.ref self), .val (.int (0 : Int32)), .val (.int (1 : Int32))] [(.int (f 2)), (.int ((f 1) &&& (255 : Int32)))]))
  refine A (XS.sipush X4.here hx rfl (hb hby d10_24)) ?_
  show D (T4.setTop (mkF m 27 #[.val (.ref self), .val (.int (0 : Int32)), .val (.int (1 : Int32))] [(.int (255 : Int32)), (.int (f 2)), (.int ((f 1) &&& (255 : Int32)))]))
  refine A (XS.iand X4.here hx rfl (hb hby d10_27) rfl) ?_
  show D (T4.setTop (mkF m 28 #[.val (.ref self), .val (.int (0 : Int32)), .val (.int (1 : Int32))] [(.int ((f 2) &&& (255 : Int32))), (.int ((f 1) &&& (255 : Int32)))]))
  refine A (XS.bipush X4.here hx rfl (hb hby d10_28)) ?_
  show D (T4.setTop (mkF m 30 #[.val (.ref self), .val (.int (0 : Int32)), .val (.int (1 : Int32))] [(.int (8 : Int32)), (.int ((f 2) &&& (255 : Int32))), (.int ((f 1) &&& (255 : Int32)))]))
  refine A (XS.ishl X4.here hx rfl (hb hby d10_30) rfl) ?_
  show D (T4.setTop (mkF m 31 #[.val (.ref self), .val (.int (0 : Int32)), .val (.int (1 : Int32))] [(.int (((f 2) &&& (255 : Int32)) <<< ((8 : Int32) &&& 31))), (.int ((f 1) &&& (255 : Int32)))]))
  refine A (XS.ior X4.here hx rfl (hb hby d10_31) rfl) ?_
  show D (T4.setTop (mkF m 32 #[.val (.ref self), .val (.int (0 : Int32)), .val (.int (1 : Int32))] [(.int (((f 1) &&& (255 : Int32)) ||| (((f 2) &&& (255 : Int32)) <<< ((8 : Int32) &&& 31))))]))
  refine A (XS.aloadN X4.here hx rfl (hb hby d10_32) rfl rfl) ?_
  show D (T4.setTop (mkF m 33 #[.val (.ref self), .val (.int (0 : Int32)), .val (.int (1 : Int32))] [(.ref self), (.int (((f 1) &&& (255 : Int32)) ||| (((f 2) &&& (255 : Int32)) <<< ((8 : Int32) &&& 31))))]))
  obtain ⟨T6, X6, e6, st6⟩ := getF X4 hx hZ hown (host := "") (Or.inl (hw _ (List.mem_of_getElem? (i := 10) rfl))) Via.refl e4 F_bytes (g := (mkF m 33 #[.val (.ref self), .val (.int (0 : Int32)), .val (.int (1 : Int32))] [(.ref self), (.int (((f 1) &&& (255 : Int32)) ||| (((f 2) &&& (255 : Int32)) <<< ((8 : Int32) &&& 31))))])) rfl rfl (hb hby d10_33)
  refine A (st6 _) ?_
  show D (T6.setTop (mkF m 36 #[.val (.ref self), .val (.int (0 : Int32)), .val (.int (1 : Int32))] [(.ref b), (.int (((f 1) &&& (255 : Int32)) ||| (((f 2) &&& (255 : Int32)) <<< ((8 : Int32) &&& 31))))]))
  refine A (XS.iloadN X6.here hx rfl (hb hby d10_36) rfl) ?_
  show D (T6.setTop (mkF m 37 #[.val (.ref self), .val (.int (0 : Int32)), .val (.int (1 : Int32))] [(.int (1 : Int32)), (.ref b), (.int (((f 1) &&& (255 : Int32)) ||| (((f 2) &&& (255 : Int32)) <<< ((8 : Int32) &&& 31))))]))
  refine A (XS.iconst X6.here hx rfl (hb hby d10_37)) ?_
  show D (T6.setTop (mkF m 38 #[.val (.ref self), .val (.int (0 : Int32)), .val (.int (1 : Int32))] [(.int (2 : Int32)), (.int (1 : Int32)), (.ref b), (.int (((f 1) &&& (255 : Int32)) ||| (((f 2) &&& (255 : Int32)) <<< ((8 : Int32) &&& 31))))]))
  refine A (XS.iadd X6.here hx rfl (hb hby d10_38) rfl) ?_
  show D (T6.setTop (mkF m 39 #[.val (.ref self), .val (.int (0 : Int32)), .val (.int (1 : Int32))] [(.int ((1 : Int32) + (2 : Int32))), (.ref b), (.int (((f 1) &&& (255 : Int32)) ||| (((f 2) &&& (255 : Int32)) <<< ((8 : Int32) &&& 31))))]))
  suffices Kq7 : ∀ q7 : Int32, q7 = (3 : Int32) → D (T6.setTop (mkF m 39 #[.val (.ref self), .val (.int (0 : Int32)), .val (.int (1 : Int32))] [(.int q7), (.ref b), (.int (((f 1) &&& (255 : Int32)) ||| (((f 2) &&& (255 : Int32)) <<< ((8 : Int32) &&& 31))))])) from Kq7 _ (by decide)
  rintro _ rfl
  show D (T6.setTop (mkF m 39 #[.val (.ref self), .val (.int (0 : Int32)), .val (.int (1 : Int32))] [(.int (3 : Int32)), (.ref b), (.int (((f 1) &&& (255 : Int32)) ||| (((f 2) &&& (255 : Int32)) <<< ((8 : Int32) &&& 31))))]))
  refine Adv.ldB A X6 hx hZ e6 V_b (k := 3) (by decide) (by decide) (g := (mkF m 39 #[.val (.ref self), .val (.int (0 : Int32)), .val (.int (1 : Int32))] [(.int (3 : Int32)), (.ref b), (.int (((f 1) &&& (255 : Int32)) ||| (((f 2) &&& (255 : Int32)) <<< ((8 : Int32) &&& 31))))])) rfl rfl (hb hby d10_39) ?_
  show D (T6.setTop (mkF m 40 #[.val (.ref self), .val (.int (0 : Int32)), .val (.int (1 : Int32))] [(.int (f 3)), (.int (((f 1) &&& (255 : Int32)) ||| (((f 2) &&& (255 : Int32)) <<< ((8 : Int32) &&& 31))))]))
  refine A (XS.sipush X6.here hx rfl (hb hby d10_40)) ?_
  show D (T6.setTop (mkF m 43 #[.val (.ref self), .val (.int (0 : Int32)), .val (.int (1 : Int32))] [(.int (255 : Int32)), (.int (f 3)), (.int (((f 1) &&& (255 : Int32)) ||| (((f 2) &&& (255 : Int32)) <<< ((8 : Int32) &&& 31))))]))
  refine A (XS.iand X6.here hx rfl (hb hby d10_43) rfl) ?_
  show D (T6.setTop (mkF m 44 #[.val (.ref self), .val (.int (0 : Int32)), .val (.int (1 : Int32))] [(.int ((f 3) &&& (255 : Int32))), (.int (((f 1) &&& (255 : Int32)) ||| (((f 2) &&& (255 : Int32)) <<< ((8 : Int32) &&& 31))))]))
  refine A (XS.bipush X6.here hx rfl (hb hby d10_44)) ?_
  show D (T6.setTop (mkF m 46 #[.val (.ref self), .val (.int (0 : Int32)), .val (.int (1 : Int32))] [(.int (16 : Int32)), (.int ((f 3) &&& (255 : Int32))), (.int (((f 1) &&& (255 : Int32)) ||| (((f 2) &&& (255 : Int32)) <<< ((8 : Int32) &&& 31))))]))
  refine A (XS.ishl X6.here hx rfl (hb hby d10_46) rfl) ?_
  show D (T6.setTop (mkF m 47 #[.val (.ref self), .val (.int (0 : Int32)), .val (.int (1 : Int32))] [(.int (((f 3) &&& (255 : Int32)) <<< ((16 : Int32) &&& 31))), (.int (((f 1) &&& (255 : Int32)) ||| (((f 2) &&& (255 : Int32)) <<< ((8 : Int32) &&& 31))))]))
  refine A (XS.ior X6.here hx rfl (hb hby d10_47) rfl) ?_
  show D (T6.setTop (mkF m 48 #[.val (.ref self), .val (.int (0 : Int32)), .val (.int (1 : Int32))] [(.int ((((f 1) &&& (255 : Int32)) ||| (((f 2) &&& (255 : Int32)) <<< ((8 : Int32) &&& 31))) ||| (((f 3) &&& (255 : Int32)) <<< ((16 : Int32) &&& 31))))]))
  refine A (XS.aloadN X6.here hx rfl (hb hby d10_48) rfl rfl) ?_
  show D (T6.setTop (mkF m 49 #[.val (.ref self), .val (.int (0 : Int32)), .val (.int (1 : Int32))] [(.ref self), (.int ((((f 1) &&& (255 : Int32)) ||| (((f 2) &&& (255 : Int32)) <<< ((8 : Int32) &&& 31))) ||| (((f 3) &&& (255 : Int32)) <<< ((16 : Int32) &&& 31))))]))
  obtain ⟨T8, X8, e8, st8⟩ := getF X6 hx hZ hown (host := "") (Or.inl (hw _ (List.mem_of_getElem? (i := 10) rfl))) Via.refl e6 F_bytes (g := (mkF m 49 #[.val (.ref self), .val (.int (0 : Int32)), .val (.int (1 : Int32))] [(.ref self), (.int ((((f 1) &&& (255 : Int32)) ||| (((f 2) &&& (255 : Int32)) <<< ((8 : Int32) &&& 31))) ||| (((f 3) &&& (255 : Int32)) <<< ((16 : Int32) &&& 31))))])) rfl rfl (hb hby d10_49)
  refine A (st8 _) ?_
  show D (T8.setTop (mkF m 52 #[.val (.ref self), .val (.int (0 : Int32)), .val (.int (1 : Int32))] [(.ref b), (.int ((((f 1) &&& (255 : Int32)) ||| (((f 2) &&& (255 : Int32)) <<< ((8 : Int32) &&& 31))) ||| (((f 3) &&& (255 : Int32)) <<< ((16 : Int32) &&& 31))))]))
  refine A (XS.iloadN X8.here hx rfl (hb hby d10_52) rfl) ?_
  show D (T8.setTop (mkF m 53 #[.val (.ref self), .val (.int (0 : Int32)), .val (.int (1 : Int32))] [(.int (1 : Int32)), (.ref b), (.int ((((f 1) &&& (255 : Int32)) ||| (((f 2) &&& (255 : Int32)) <<< ((8 : Int32) &&& 31))) ||| (((f 3) &&& (255 : Int32)) <<< ((16 : Int32) &&& 31))))]))
  refine A (XS.iconst X8.here hx rfl (hb hby d10_53)) ?_
  show D (T8.setTop (mkF m 54 #[.val (.ref self), .val (.int (0 : Int32)), .val (.int (1 : Int32))] [(.int (3 : Int32)), (.int (1 : Int32)), (.ref b), (.int ((((f 1) &&& (255 : Int32)) ||| (((f 2) &&& (255 : Int32)) <<< ((8 : Int32) &&& 31))) ||| (((f 3) &&& (255 : Int32)) <<< ((16 : Int32) &&& 31))))]))
  refine A (XS.iadd X8.here hx rfl (hb hby d10_54) rfl) ?_
  show D (T8.setTop (mkF m 55 #[.val (.ref self), .val (.int (0 : Int32)), .val (.int (1 : Int32))] [(.int ((1 : Int32) + (3 : Int32))), (.ref b), (.int ((((f 1) &&& (255 : Int32)) ||| (((f 2) &&& (255 : Int32)) <<< ((8 : Int32) &&& 31))) ||| (((f 3) &&& (255 : Int32)) <<< ((16 : Int32) &&& 31))))]))
  suffices Kq9 : ∀ q9 : Int32, q9 = (4 : Int32) → D (T8.setTop (mkF m 55 #[.val (.ref self), .val (.int (0 : Int32)), .val (.int (1 : Int32))] [(.int q9), (.ref b), (.int ((((f 1) &&& (255 : Int32)) ||| (((f 2) &&& (255 : Int32)) <<< ((8 : Int32) &&& 31))) ||| (((f 3) &&& (255 : Int32)) <<< ((16 : Int32) &&& 31))))])) from Kq9 _ (by decide)
  rintro _ rfl
  show D (T8.setTop (mkF m 55 #[.val (.ref self), .val (.int (0 : Int32)), .val (.int (1 : Int32))] [(.int (4 : Int32)), (.ref b), (.int ((((f 1) &&& (255 : Int32)) ||| (((f 2) &&& (255 : Int32)) <<< ((8 : Int32) &&& 31))) ||| (((f 3) &&& (255 : Int32)) <<< ((16 : Int32) &&& 31))))]))
  refine Adv.ldB A X8 hx hZ e8 V_b (k := 4) (by decide) (by decide) (g := (mkF m 55 #[.val (.ref self), .val (.int (0 : Int32)), .val (.int (1 : Int32))] [(.int (4 : Int32)), (.ref b), (.int ((((f 1) &&& (255 : Int32)) ||| (((f 2) &&& (255 : Int32)) <<< ((8 : Int32) &&& 31))) ||| (((f 3) &&& (255 : Int32)) <<< ((16 : Int32) &&& 31))))])) rfl rfl (hb hby d10_55) ?_
  show D (T8.setTop (mkF m 56 #[.val (.ref self), .val (.int (0 : Int32)), .val (.int (1 : Int32))] [(.int (f 4)), (.int ((((f 1) &&& (255 : Int32)) ||| (((f 2) &&& (255 : Int32)) <<< ((8 : Int32) &&& 31))) ||| (((f 3) &&& (255 : Int32)) <<< ((16 : Int32) &&& 31))))]))
  refine A (XS.bipush X8.here hx rfl (hb hby d10_56)) ?_
  show D (T8.setTop (mkF m 58 #[.val (.ref self), .val (.int (0 : Int32)), .val (.int (1 : Int32))] [(.int (24 : Int32)), (.int (f 4)), (.int ((((f 1) &&& (255 : Int32)) ||| (((f 2) &&& (255 : Int32)) <<< ((8 : Int32) &&& 31))) ||| (((f 3) &&& (255 : Int32)) <<< ((16 : Int32) &&& 31))))]))
  refine A (XS.ishl X8.here hx rfl (hb hby d10_58) rfl) ?_
  show D (T8.setTop (mkF m 59 #[.val (.ref self), .val (.int (0 : Int32)), .val (.int (1 : Int32))] [(.int ((f 4) <<< ((24 : Int32) &&& 31))), (.int ((((f 1) &&& (255 : Int32)) ||| (((f 2) &&& (255 : Int32)) <<< ((8 : Int32) &&& 31))) ||| (((f 3) &&& (255 : Int32)) <<< ((16 : Int32) &&& 31))))]))
  refine A (XS.ior X8.here hx rfl (hb hby d10_59) rfl) ?_
  show D (T8.setTop (mkF m 60 #[.val (.ref self), .val (.int (0 : Int32)), .val (.int (1 : Int32))] [(.int (((((f 1) &&& (255 : Int32)) ||| (((f 2) &&& (255 : Int32)) <<< ((8 : Int32) &&& 31))) ||| (((f 3) &&& (255 : Int32)) <<< ((16 : Int32) &&& 31))) ||| ((f 4) <<< ((24 : Int32) &&& 31))))]))
  refine F _ (Jvm.JW.ret X8 hlk (v := some (.int (((((f 1) &&& (255 : Int32)) ||| (((f 2) &&& (255 : Int32)) <<< ((8 : Int32) &&& 31))) ||| (((f 3) &&& (255 : Int32)) <<< ((16 : Int32) &&& 31))) ||| ((f 4) <<< ((24 : Int32) &&& 31))))) (fun h => by rw [hrt] at h; cases h) (fun fs hr => retOut X8 hx hrt rfl (Or.inl ⟨rfl, Or.inl rfl, _, rfl⟩) (hb hby d10_60) hr) rfl ?_ (by decide) (by decide))
  exact ⟨rfl, (Fr.nil n0), e8⟩
theorem ef10_1 (self : Addr) (m : MethodId) : entryFrame m #[(.ref self), (.int (1 : Int32))] 3 = mkF m 0 #[.val (.ref self), .val (.int (1 : Int32)), .unset] [] := by first | (simp [entryFrame, mkF, argsToLocals, Value.category]; done) | rfl
set_option maxRecDepth 65536 in
set_option maxHeartbeats 40000000 in
theorem rm10_1 (l : Launch) (Z : State) (a0 : Array Value) (hw : ∀ d ∈ tables_1, d.before a0 Z = true) (ws : List Jvm.Cond) (self : Addr) (h0 : Heap) (n0 : Nat) (b : Addr) (f : Nat → Int32) (F_bytes : Fld Z h0 self "quoth/store/Record" "bytes" "[B" (.ref b)) (V_b : ArI Z h0 b .byte 256 f) :
    JMet l Z (⟨"quoth/store/Record", "id", "(I)I"⟩ : MethodName) prog_64_method_13_code 3 (some .int) ws ({ frames := 0, cells := 0, slots := 0, locals := 0 } : Room) #[(.ref self), (.int (1 : Int32))] h0 (QP (.int (((((f 5) &&& (255 : Int32)) ||| (((f 6) &&& (255 : Int32)) <<< ((8 : Int32) &&& 31))) ||| (((f 7) &&& (255 : Int32)) <<< ((16 : Int32) &&& 31))) ||| ((f 8) <<< ((24 : Int32) &&& 31)))) h0 n0) := by
  refine Jvm.JW.body #[.val (.ref self), .val (.int (1 : Int32)), .unset] pn10 (ef10_1 self) ?_
  intro p e s m below meth c T0 D A F X0 hx hZ hby hml hown hnm hrt hlk e0
  refine A (XS.iconst X0.here hx rfl (hb hby d10_0)) ?_
  show D (T0.setTop (mkF m 1 #[.val (.ref self), .val (.int (1 : Int32)), .unset] [(.int (1 : Int32))]))
  refine A (XS.iconst X0.here hx rfl (hb hby d10_1)) ?_
  show D (T0.setTop (mkF m 2 #[.val (.ref self), .val (.int (1 : Int32)), .unset] [(.int (4 : Int32)), (.int (1 : Int32))]))
  refine A (XS.iloadN X0.here hx rfl (hb hby d10_2) rfl) ?_
  show D (T0.setTop (mkF m 3 #[.val (.ref self), .val (.int (1 : Int32)), .unset] [(.int (1 : Int32)), (.int (4 : Int32)), (.int (1 : Int32))]))
  refine A (XS.imul X0.here hx rfl (hb hby d10_3) rfl) ?_
  show D (T0.setTop (mkF m 4 #[.val (.ref self), .val (.int (1 : Int32)), .unset] [(.int ((4 : Int32) * (1 : Int32))), (.int (1 : Int32))]))
  suffices Kq1 : ∀ q1 : Int32, q1 = (4 : Int32) → D (T0.setTop (mkF m 4 #[.val (.ref self), .val (.int (1 : Int32)), .unset] [(.int q1), (.int (1 : Int32))])) from Kq1 _ (by decide)
  rintro _ rfl
  show D (T0.setTop (mkF m 4 #[.val (.ref self), .val (.int (1 : Int32)), .unset] [(.int (4 : Int32)), (.int (1 : Int32))]))
  refine A (XS.iadd X0.here hx rfl (hb hby d10_4) rfl) ?_
  show D (T0.setTop (mkF m 5 #[.val (.ref self), .val (.int (1 : Int32)), .unset] [(.int ((1 : Int32) + (4 : Int32)))]))
  suffices Kq2 : ∀ q2 : Int32, q2 = (5 : Int32) → D (T0.setTop (mkF m 5 #[.val (.ref self), .val (.int (1 : Int32)), .unset] [(.int q2)])) from Kq2 _ (by decide)
  rintro _ rfl
  show D (T0.setTop (mkF m 5 #[.val (.ref self), .val (.int (1 : Int32)), .unset] [(.int (5 : Int32))]))
  refine A (XS.istoreN X0.here hx rfl (hb hby d10_5) rfl (l' := #[.val (.ref self), .val (.int (1 : Int32)), .val (.int (5 : Int32))]) rfl) ?_
  show D (T0.setTop (mkF m 6 #[.val (.ref self), .val (.int (1 : Int32)), .val (.int (5 : Int32))] []))
  refine A (XS.aloadN X0.here hx rfl (hb hby d10_6) rfl rfl) ?_
  show D (T0.setTop (mkF m 7 #[.val (.ref self), .val (.int (1 : Int32)), .val (.int (5 : Int32))] [(.ref self)]))
  obtain ⟨T3, X3, e3, st3⟩ := getF X0 hx hZ hown (host := "") (Or.inl (hw _ (List.mem_of_getElem? (i := 10) rfl))) Via.refl e0 F_bytes (g := (mkF m 7 #[.val (.ref self), .val (.int (1 : Int32)), .val (.int (5 : Int32))] [(.ref self)])) rfl rfl (hb hby d10_7)
  refine A (st3 _) ?_
  show D (T3.setTop (mkF m 10 #[.val (.ref self), .val (.int (1 : Int32)), .val (.int (5 : Int32))] [(.ref b)]))
  refine A (XS.iloadN X3.here hx rfl (hb hby d10_10) rfl) ?_
  show D (T3.setTop (mkF m 11 #[.val (.ref self), .val (.int (1 : Int32)), .val (.int (5 : Int32))] [(.int (5 : Int32)), (.ref b)]))
  refine Adv.ldB A X3 hx hZ e3 V_b (k := 5) (by decide) (by decide) (g := (mkF m 11 #[.val (.ref self), .val (.int (1 : Int32)), .val (.int (5 : Int32))] [(.int (5 : Int32)), (.ref b)])) rfl rfl (hb hby d10_11) ?_
  show D (T3.setTop (mkF m 12 #[.val (.ref self), .val (.int (1 : Int32)), .val (.int (5 : Int32))] [(.int (f 5))]))
  refine A (XS.sipush X3.here hx rfl (hb hby d10_12)) ?_
  show D (T3.setTop (mkF m 15 #[.val (.ref self), .val (.int (1 : Int32)), .val (.int (5 : Int32))] [(.int (255 : Int32)), (.int (f 5))]))
  refine A (XS.iand X3.here hx rfl (hb hby d10_15) rfl) ?_
  show D (T3.setTop (mkF m 16 #[.val (.ref self), .val (.int (1 : Int32)), .val (.int (5 : Int32))] [(.int ((f 5) &&& (255 : Int32)))]))
  refine A (XS.aloadN X3.here hx rfl (hb hby d10_16) rfl rfl) ?_
  show D (T3.setTop (mkF m 17 #[.val (.ref self), .val (.int (1 : Int32)), .val (.int (5 : Int32))] [(.ref self), (.int ((f 5) &&& (255 : Int32)))]))
  obtain ⟨T4, X4, e4, st4⟩ := getF X3 hx hZ hown (host := "") (Or.inl (hw _ (List.mem_of_getElem? (i := 10) rfl))) Via.refl e3 F_bytes (g := (mkF m 17 #[.val (.ref self), .val (.int (1 : Int32)), .val (.int (5 : Int32))] [(.ref self), (.int ((f 5) &&& (255 : Int32)))])) rfl rfl (hb hby d10_17)
  refine A (st4 _) ?_
  show D (T4.setTop (mkF m 20 #[.val (.ref self), .val (.int (1 : Int32)), .val (.int (5 : Int32))] [(.ref b), (.int ((f 5) &&& (255 : Int32)))]))
  refine A (XS.iloadN X4.here hx rfl (hb hby d10_20) rfl) ?_
  show D (T4.setTop (mkF m 21 #[.val (.ref self), .val (.int (1 : Int32)), .val (.int (5 : Int32))] [(.int (5 : Int32)), (.ref b), (.int ((f 5) &&& (255 : Int32)))]))
  refine A (XS.iconst X4.here hx rfl (hb hby d10_21)) ?_
  show D (T4.setTop (mkF m 22 #[.val (.ref self), .val (.int (1 : Int32)), .val (.int (5 : Int32))] [(.int (1 : Int32)), (.int (5 : Int32)), (.ref b), (.int ((f 5) &&& (255 : Int32)))]))
  refine A (XS.iadd X4.here hx rfl (hb hby d10_22) rfl) ?_
  show D (T4.setTop (mkF m 23 #[.val (.ref self), .val (.int (1 : Int32)), .val (.int (5 : Int32))] [(.int ((5 : Int32) + (1 : Int32))), (.ref b), (.int ((f 5) &&& (255 : Int32)))]))
  suffices Kq5 : ∀ q5 : Int32, q5 = (6 : Int32) → D (T4.setTop (mkF m 23 #[.val (.ref self), .val (.int (1 : Int32)), .val (.int (5 : Int32))] [(.int q5), (.ref b), (.int ((f 5) &&& (255 : Int32)))])) from Kq5 _ (by decide)
  rintro _ rfl
  show D (T4.setTop (mkF m 23 #[.val (.ref self), .val (.int (1 : Int32)), .val (.int (5 : Int32))] [(.int (6 : Int32)), (.ref b), (.int ((f 5) &&& (255 : Int32)))]))
  refine Adv.ldB A X4 hx hZ e4 V_b (k := 6) (by decide) (by decide) (g := (mkF m 23 #[.val (.ref self), .val (.int (1 : Int32)), .val (.int (5 : Int32))] [(.int (6 : Int32)), (.ref b), (.int ((f 5) &&& (255 : Int32)))])) rfl rfl (hb hby d10_23) ?_
  show D (T4.setTop (mkF m 24 #[.val (.ref self), .val (.int (1 : Int32)), .val (.int (5 : Int32))] [(.int (f 6)), (.int ((f 5) &&& (255 : Int32)))]))
  refine A (XS.sipush X4.here hx rfl (hb hby d10_24)) ?_
  show D (T4.setTop (mkF m 27 #[.val (.ref self), .val (.int (1 : Int32)), .val (.int (5 : Int32))] [(.int (255 : Int32)), (.int (f 6)), (.int ((f 5) &&& (255 : Int32)))]))
  refine A (XS.iand X4.here hx rfl (hb hby d10_27) rfl) ?_
  show D (T4.setTop (mkF m 28 #[.val (.ref self), .val (.int (1 : Int32)), .val (.int (5 : Int32))] [(.int ((f 6) &&& (255 : Int32))), (.int ((f 5) &&& (255 : Int32)))]))
  refine A (XS.bipush X4.here hx rfl (hb hby d10_28)) ?_
  show D (T4.setTop (mkF m 30 #[.val (.ref self), .val (.int (1 : Int32)), .val (.int (5 : Int32))] [(.int (8 : Int32)), (.int ((f 6) &&& (255 : Int32))), (.int ((f 5) &&& (255 : Int32)))]))
  refine A (XS.ishl X4.here hx rfl (hb hby d10_30) rfl) ?_
  show D (T4.setTop (mkF m 31 #[.val (.ref self), .val (.int (1 : Int32)), .val (.int (5 : Int32))] [(.int (((f 6) &&& (255 : Int32)) <<< ((8 : Int32) &&& 31))), (.int ((f 5) &&& (255 : Int32)))]))
  refine A (XS.ior X4.here hx rfl (hb hby d10_31) rfl) ?_
  show D (T4.setTop (mkF m 32 #[.val (.ref self), .val (.int (1 : Int32)), .val (.int (5 : Int32))] [(.int (((f 5) &&& (255 : Int32)) ||| (((f 6) &&& (255 : Int32)) <<< ((8 : Int32) &&& 31))))]))
  refine A (XS.aloadN X4.here hx rfl (hb hby d10_32) rfl rfl) ?_
  show D (T4.setTop (mkF m 33 #[.val (.ref self), .val (.int (1 : Int32)), .val (.int (5 : Int32))] [(.ref self), (.int (((f 5) &&& (255 : Int32)) ||| (((f 6) &&& (255 : Int32)) <<< ((8 : Int32) &&& 31))))]))
  obtain ⟨T6, X6, e6, st6⟩ := getF X4 hx hZ hown (host := "") (Or.inl (hw _ (List.mem_of_getElem? (i := 10) rfl))) Via.refl e4 F_bytes (g := (mkF m 33 #[.val (.ref self), .val (.int (1 : Int32)), .val (.int (5 : Int32))] [(.ref self), (.int (((f 5) &&& (255 : Int32)) ||| (((f 6) &&& (255 : Int32)) <<< ((8 : Int32) &&& 31))))])) rfl rfl (hb hby d10_33)
  refine A (st6 _) ?_
  show D (T6.setTop (mkF m 36 #[.val (.ref self), .val (.int (1 : Int32)), .val (.int (5 : Int32))] [(.ref b), (.int (((f 5) &&& (255 : Int32)) ||| (((f 6) &&& (255 : Int32)) <<< ((8 : Int32) &&& 31))))]))
  refine A (XS.iloadN X6.here hx rfl (hb hby d10_36) rfl) ?_
  show D (T6.setTop (mkF m 37 #[.val (.ref self), .val (.int (1 : Int32)), .val (.int (5 : Int32))] [(.int (5 : Int32)), (.ref b), (.int (((f 5) &&& (255 : Int32)) ||| (((f 6) &&& (255 : Int32)) <<< ((8 : Int32) &&& 31))))]))
  refine A (XS.iconst X6.here hx rfl (hb hby d10_37)) ?_
  show D (T6.setTop (mkF m 38 #[.val (.ref self), .val (.int (1 : Int32)), .val (.int (5 : Int32))] [(.int (2 : Int32)), (.int (5 : Int32)), (.ref b), (.int (((f 5) &&& (255 : Int32)) ||| (((f 6) &&& (255 : Int32)) <<< ((8 : Int32) &&& 31))))]))
  refine A (XS.iadd X6.here hx rfl (hb hby d10_38) rfl) ?_
  show D (T6.setTop (mkF m 39 #[.val (.ref self), .val (.int (1 : Int32)), .val (.int (5 : Int32))] [(.int ((5 : Int32) + (2 : Int32))), (.ref b), (.int (((f 5) &&& (255 : Int32)) ||| (((f 6) &&& (255 : Int32)) <<< ((8 : Int32) &&& 31))))]))
  suffices Kq7 : ∀ q7 : Int32, q7 = (7 : Int32) → D (T6.setTop (mkF m 39 #[.val (.ref self), .val (.int (1 : Int32)), .val (.int (5 : Int32))] [(.int q7), (.ref b), (.int (((f 5) &&& (255 : Int32)) ||| (((f 6) &&& (255 : Int32)) <<< ((8 : Int32) &&& 31))))])) from Kq7 _ (by decide)
  rintro _ rfl
  show D (T6.setTop (mkF m 39 #[.val (.ref self), .val (.int (1 : Int32)), .val (.int (5 : Int32))] [(.int (7 : Int32)), (.ref b), (.int (((f 5) &&& (255 : Int32)) ||| (((f 6) &&& (255 : Int32)) <<< ((8 : Int32) &&& 31))))]))
  refine Adv.ldB A X6 hx hZ e6 V_b (k := 7) (by decide) (by decide) (g := (mkF m 39 #[.val (.ref self), .val (.int (1 : Int32)), .val (.int (5 : Int32))] [(.int (7 : Int32)), (.ref b), (.int (((f 5) &&& (255 : Int32)) ||| (((f 6) &&& (255 : Int32)) <<< ((8 : Int32) &&& 31))))])) rfl rfl (hb hby d10_39) ?_
  show D (T6.setTop (mkF m 40 #[.val (.ref self), .val (.int (1 : Int32)), .val (.int (5 : Int32))] [(.int (f 7)), (.int (((f 5) &&& (255 : Int32)) ||| (((f 6) &&& (255 : Int32)) <<< ((8 : Int32) &&& 31))))]))
  refine A (XS.sipush X6.here hx rfl (hb hby d10_40)) ?_
  show D (T6.setTop (mkF m 43 #[.val (.ref self), .val (.int (1 : Int32)), .val (.int (5 : Int32))] [(.int (255 : Int32)), (.int (f 7)), (.int (((f 5) &&& (255 : Int32)) ||| (((f 6) &&& (255 : Int32)) <<< ((8 : Int32) &&& 31))))]))
  refine A (XS.iand X6.here hx rfl (hb hby d10_43) rfl) ?_
  show D (T6.setTop (mkF m 44 #[.val (.ref self), .val (.int (1 : Int32)), .val (.int (5 : Int32))] [(.int ((f 7) &&& (255 : Int32))), (.int (((f 5) &&& (255 : Int32)) ||| (((f 6) &&& (255 : Int32)) <<< ((8 : Int32) &&& 31))))]))
  refine A (XS.bipush X6.here hx rfl (hb hby d10_44)) ?_
  show D (T6.setTop (mkF m 46 #[.val (.ref self), .val (.int (1 : Int32)), .val (.int (5 : Int32))] [(.int (16 : Int32)), (.int ((f 7) &&& (255 : Int32))), (.int (((f 5) &&& (255 : Int32)) ||| (((f 6) &&& (255 : Int32)) <<< ((8 : Int32) &&& 31))))]))
  refine A (XS.ishl X6.here hx rfl (hb hby d10_46) rfl) ?_
  show D (T6.setTop (mkF m 47 #[.val (.ref self), .val (.int (1 : Int32)), .val (.int (5 : Int32))] [(.int (((f 7) &&& (255 : Int32)) <<< ((16 : Int32) &&& 31))), (.int (((f 5) &&& (255 : Int32)) ||| (((f 6) &&& (255 : Int32)) <<< ((8 : Int32) &&& 31))))]))
  refine A (XS.ior X6.here hx rfl (hb hby d10_47) rfl) ?_
  show D (T6.setTop (mkF m 48 #[.val (.ref self), .val (.int (1 : Int32)), .val (.int (5 : Int32))] [(.int ((((f 5) &&& (255 : Int32)) ||| (((f 6) &&& (255 : Int32)) <<< ((8 : Int32) &&& 31))) ||| (((f 7) &&& (255 : Int32)) <<< ((16 : Int32) &&& 31))))]))
  refine A (XS.aloadN X6.here hx rfl (hb hby d10_48) rfl rfl) ?_
  show D (T6.setTop (mkF m 49 #[.val (.ref self), .val (.int (1 : Int32)), .val (.int (5 : Int32))] [(.ref self), (.int ((((f 5) &&& (255 : Int32)) ||| (((f 6) &&& (255 : Int32)) <<< ((8 : Int32) &&& 31))) ||| (((f 7) &&& (255 : Int32)) <<< ((16 : Int32) &&& 31))))]))
  obtain ⟨T8, X8, e8, st8⟩ := getF X6 hx hZ hown (host := "") (Or.inl (hw _ (List.mem_of_getElem? (i := 10) rfl))) Via.refl e6 F_bytes (g := (mkF m 49 #[.val (.ref self), .val (.int (1 : Int32)), .val (.int (5 : Int32))] [(.ref self), (.int ((((f 5) &&& (255 : Int32)) ||| (((f 6) &&& (255 : Int32)) <<< ((8 : Int32) &&& 31))) ||| (((f 7) &&& (255 : Int32)) <<< ((16 : Int32) &&& 31))))])) rfl rfl (hb hby d10_49)
  refine A (st8 _) ?_
  show D (T8.setTop (mkF m 52 #[.val (.ref self), .val (.int (1 : Int32)), .val (.int (5 : Int32))] [(.ref b), (.int ((((f 5) &&& (255 : Int32)) ||| (((f 6) &&& (255 : Int32)) <<< ((8 : Int32) &&& 31))) ||| (((f 7) &&& (255 : Int32)) <<< ((16 : Int32) &&& 31))))]))
  refine A (XS.iloadN X8.here hx rfl (hb hby d10_52) rfl) ?_
  show D (T8.setTop (mkF m 53 #[.val (.ref self), .val (.int (1 : Int32)), .val (.int (5 : Int32))] [(.int (5 : Int32)), (.ref b), (.int ((((f 5) &&& (255 : Int32)) ||| (((f 6) &&& (255 : Int32)) <<< ((8 : Int32) &&& 31))) ||| (((f 7) &&& (255 : Int32)) <<< ((16 : Int32) &&& 31))))]))
  refine A (XS.iconst X8.here hx rfl (hb hby d10_53)) ?_
  show D (T8.setTop (mkF m 54 #[.val (.ref self), .val (.int (1 : Int32)), .val (.int (5 : Int32))] [(.int (3 : Int32)), (.int (5 : Int32)), (.ref b), (.int ((((f 5) &&& (255 : Int32)) ||| (((f 6) &&& (255 : Int32)) <<< ((8 : Int32) &&& 31))) ||| (((f 7) &&& (255 : Int32)) <<< ((16 : Int32) &&& 31))))]))
  refine A (XS.iadd X8.here hx rfl (hb hby d10_54) rfl) ?_
  show D (T8.setTop (mkF m 55 #[.val (.ref self), .val (.int (1 : Int32)), .val (.int (5 : Int32))] [(.int ((5 : Int32) + (3 : Int32))), (.ref b), (.int ((((f 5) &&& (255 : Int32)) ||| (((f 6) &&& (255 : Int32)) <<< ((8 : Int32) &&& 31))) ||| (((f 7) &&& (255 : Int32)) <<< ((16 : Int32) &&& 31))))]))
  suffices Kq9 : ∀ q9 : Int32, q9 = (8 : Int32) → D (T8.setTop (mkF m 55 #[.val (.ref self), .val (.int (1 : Int32)), .val (.int (5 : Int32))] [(.int q9), (.ref b), (.int ((((f 5) &&& (255 : Int32)) ||| (((f 6) &&& (255 : Int32)) <<< ((8 : Int32) &&& 31))) ||| (((f 7) &&& (255 : Int32)) <<< ((16 : Int32) &&& 31))))])) from Kq9 _ (by decide)
  rintro _ rfl
  show D (T8.setTop (mkF m 55 #[.val (.ref self), .val (.int (1 : Int32)), .val (.int (5 : Int32))] [(.int (8 : Int32)), (.ref b), (.int ((((f 5) &&& (255 : Int32)) ||| (((f 6) &&& (255 : Int32)) <<< ((8 : Int32) &&& 31))) ||| (((f 7) &&& (255 : Int32)) <<< ((16 : Int32) &&& 31))))]))
  refine Adv.ldB A X8 hx hZ e8 V_b (k := 8) (by decide) (by decide) (g := (mkF m 55 #[.val (.ref self), .val (.int (1 : Int32)), .val (.int (5 : Int32))] [(.int (8 : Int32)), (.ref b), (.int ((((f 5) &&& (255 : Int32)) ||| (((f 6) &&& (255 : Int32)) <<< ((8 : Int32) &&& 31))) ||| (((f 7) &&& (255 : Int32)) <<< ((16 : Int32) &&& 31))))])) rfl rfl (hb hby d10_55) ?_
  show D (T8.setTop (mkF m 56 #[.val (.ref self), .val (.int (1 : Int32)), .val (.int (5 : Int32))] [(.int (f 8)), (.int ((((f 5) &&& (255 : Int32)) ||| (((f 6) &&& (255 : Int32)) <<< ((8 : Int32) &&& 31))) ||| (((f 7) &&& (255 : Int32)) <<< ((16 : Int32) &&& 31))))]))
  refine A (XS.bipush X8.here hx rfl (hb hby d10_56)) ?_
  show D (T8.setTop (mkF m 58 #[.val (.ref self), .val (.int (1 : Int32)), .val (.int (5 : Int32))] [(.int (24 : Int32)), (.int (f 8)), (.int ((((f 5) &&& (255 : Int32)) ||| (((f 6) &&& (255 : Int32)) <<< ((8 : Int32) &&& 31))) ||| (((f 7) &&& (255 : Int32)) <<< ((16 : Int32) &&& 31))))]))
  refine A (XS.ishl X8.here hx rfl (hb hby d10_58) rfl) ?_
  show D (T8.setTop (mkF m 59 #[.val (.ref self), .val (.int (1 : Int32)), .val (.int (5 : Int32))] [(.int ((f 8) <<< ((24 : Int32) &&& 31))), (.int ((((f 5) &&& (255 : Int32)) ||| (((f 6) &&& (255 : Int32)) <<< ((8 : Int32) &&& 31))) ||| (((f 7) &&& (255 : Int32)) <<< ((16 : Int32) &&& 31))))]))
  refine A (XS.ior X8.here hx rfl (hb hby d10_59) rfl) ?_
  show D (T8.setTop (mkF m 60 #[.val (.ref self), .val (.int (1 : Int32)), .val (.int (5 : Int32))] [(.int (((((f 5) &&& (255 : Int32)) ||| (((f 6) &&& (255 : Int32)) <<< ((8 : Int32) &&& 31))) ||| (((f 7) &&& (255 : Int32)) <<< ((16 : Int32) &&& 31))) ||| ((f 8) <<< ((24 : Int32) &&& 31))))]))
  refine F _ (Jvm.JW.ret X8 hlk (v := some (.int (((((f 5) &&& (255 : Int32)) ||| (((f 6) &&& (255 : Int32)) <<< ((8 : Int32) &&& 31))) ||| (((f 7) &&& (255 : Int32)) <<< ((16 : Int32) &&& 31))) ||| ((f 8) <<< ((24 : Int32) &&& 31))))) (fun h => by rw [hrt] at h; cases h) (fun fs hr => retOut X8 hx hrt rfl (Or.inl ⟨rfl, Or.inl rfl, _, rfl⟩) (hb hby d10_60) hr) rfl ?_ (by decide) (by decide))
  exact ⟨rfl, (Fr.nil n0), e8⟩
theorem ef10_2 (self : Addr) (m : MethodId) : entryFrame m #[(.ref self), (.int (2 : Int32))] 3 = mkF m 0 #[.val (.ref self), .val (.int (2 : Int32)), .unset] [] := by first | (simp [entryFrame, mkF, argsToLocals, Value.category]; done) | rfl
set_option maxRecDepth 65536 in
set_option maxHeartbeats 40000000 in
theorem rm10_2 (l : Launch) (Z : State) (a0 : Array Value) (hw : ∀ d ∈ tables_1, d.before a0 Z = true) (ws : List Jvm.Cond) (self : Addr) (h0 : Heap) (n0 : Nat) (b : Addr) (f : Nat → Int32) (F_bytes : Fld Z h0 self "quoth/store/Record" "bytes" "[B" (.ref b)) (V_b : ArI Z h0 b .byte 256 f) :
    JMet l Z (⟨"quoth/store/Record", "id", "(I)I"⟩ : MethodName) prog_64_method_13_code 3 (some .int) ws ({ frames := 0, cells := 0, slots := 0, locals := 0 } : Room) #[(.ref self), (.int (2 : Int32))] h0 (QP (.int (((((f 9) &&& (255 : Int32)) ||| (((f 10) &&& (255 : Int32)) <<< ((8 : Int32) &&& 31))) ||| (((f 11) &&& (255 : Int32)) <<< ((16 : Int32) &&& 31))) ||| ((f 12) <<< ((24 : Int32) &&& 31)))) h0 n0) := by
  refine Jvm.JW.body #[.val (.ref self), .val (.int (2 : Int32)), .unset] pn10 (ef10_2 self) ?_
  intro p e s m below meth c T0 D A F X0 hx hZ hby hml hown hnm hrt hlk e0
  refine A (XS.iconst X0.here hx rfl (hb hby d10_0)) ?_
  show D (T0.setTop (mkF m 1 #[.val (.ref self), .val (.int (2 : Int32)), .unset] [(.int (1 : Int32))]))
  refine A (XS.iconst X0.here hx rfl (hb hby d10_1)) ?_
  show D (T0.setTop (mkF m 2 #[.val (.ref self), .val (.int (2 : Int32)), .unset] [(.int (4 : Int32)), (.int (1 : Int32))]))
  refine A (XS.iloadN X0.here hx rfl (hb hby d10_2) rfl) ?_
  show D (T0.setTop (mkF m 3 #[.val (.ref self), .val (.int (2 : Int32)), .unset] [(.int (2 : Int32)), (.int (4 : Int32)), (.int (1 : Int32))]))
  refine A (XS.imul X0.here hx rfl (hb hby d10_3) rfl) ?_
  show D (T0.setTop (mkF m 4 #[.val (.ref self), .val (.int (2 : Int32)), .unset] [(.int ((4 : Int32) * (2 : Int32))), (.int (1 : Int32))]))
  suffices Kq1 : ∀ q1 : Int32, q1 = (8 : Int32) → D (T0.setTop (mkF m 4 #[.val (.ref self), .val (.int (2 : Int32)), .unset] [(.int q1), (.int (1 : Int32))])) from Kq1 _ (by decide)
  rintro _ rfl
  show D (T0.setTop (mkF m 4 #[.val (.ref self), .val (.int (2 : Int32)), .unset] [(.int (8 : Int32)), (.int (1 : Int32))]))
  refine A (XS.iadd X0.here hx rfl (hb hby d10_4) rfl) ?_
  show D (T0.setTop (mkF m 5 #[.val (.ref self), .val (.int (2 : Int32)), .unset] [(.int ((1 : Int32) + (8 : Int32)))]))
  suffices Kq2 : ∀ q2 : Int32, q2 = (9 : Int32) → D (T0.setTop (mkF m 5 #[.val (.ref self), .val (.int (2 : Int32)), .unset] [(.int q2)])) from Kq2 _ (by decide)
  rintro _ rfl
  show D (T0.setTop (mkF m 5 #[.val (.ref self), .val (.int (2 : Int32)), .unset] [(.int (9 : Int32))]))
  refine A (XS.istoreN X0.here hx rfl (hb hby d10_5) rfl (l' := #[.val (.ref self), .val (.int (2 : Int32)), .val (.int (9 : Int32))]) rfl) ?_
  show D (T0.setTop (mkF m 6 #[.val (.ref self), .val (.int (2 : Int32)), .val (.int (9 : Int32))] []))
  refine A (XS.aloadN X0.here hx rfl (hb hby d10_6) rfl rfl) ?_
  show D (T0.setTop (mkF m 7 #[.val (.ref self), .val (.int (2 : Int32)), .val (.int (9 : Int32))] [(.ref self)]))
  obtain ⟨T3, X3, e3, st3⟩ := getF X0 hx hZ hown (host := "") (Or.inl (hw _ (List.mem_of_getElem? (i := 10) rfl))) Via.refl e0 F_bytes (g := (mkF m 7 #[.val (.ref self), .val (.int (2 : Int32)), .val (.int (9 : Int32))] [(.ref self)])) rfl rfl (hb hby d10_7)
  refine A (st3 _) ?_
  show D (T3.setTop (mkF m 10 #[.val (.ref self), .val (.int (2 : Int32)), .val (.int (9 : Int32))] [(.ref b)]))
  refine A (XS.iloadN X3.here hx rfl (hb hby d10_10) rfl) ?_
  show D (T3.setTop (mkF m 11 #[.val (.ref self), .val (.int (2 : Int32)), .val (.int (9 : Int32))] [(.int (9 : Int32)), (.ref b)]))
  refine Adv.ldB A X3 hx hZ e3 V_b (k := 9) (by decide) (by decide) (g := (mkF m 11 #[.val (.ref self), .val (.int (2 : Int32)), .val (.int (9 : Int32))] [(.int (9 : Int32)), (.ref b)])) rfl rfl (hb hby d10_11) ?_
  show D (T3.setTop (mkF m 12 #[.val (.ref self), .val (.int (2 : Int32)), .val (.int (9 : Int32))] [(.int (f 9))]))
  refine A (XS.sipush X3.here hx rfl (hb hby d10_12)) ?_
  show D (T3.setTop (mkF m 15 #[.val (.ref self), .val (.int (2 : Int32)), .val (.int (9 : Int32))] [(.int (255 : Int32)), (.int (f 9))]))
  refine A (XS.iand X3.here hx rfl (hb hby d10_15) rfl) ?_
  show D (T3.setTop (mkF m 16 #[.val (.ref self), .val (.int (2 : Int32)), .val (.int (9 : Int32))] [(.int ((f 9) &&& (255 : Int32)))]))
  refine A (XS.aloadN X3.here hx rfl (hb hby d10_16) rfl rfl) ?_
  show D (T3.setTop (mkF m 17 #[.val (.ref self), .val (.int (2 : Int32)), .val (.int (9 : Int32))] [(.ref self), (.int ((f 9) &&& (255 : Int32)))]))
  obtain ⟨T4, X4, e4, st4⟩ := getF X3 hx hZ hown (host := "") (Or.inl (hw _ (List.mem_of_getElem? (i := 10) rfl))) Via.refl e3 F_bytes (g := (mkF m 17 #[.val (.ref self), .val (.int (2 : Int32)), .val (.int (9 : Int32))] [(.ref self), (.int ((f 9) &&& (255 : Int32)))])) rfl rfl (hb hby d10_17)
  refine A (st4 _) ?_
  show D (T4.setTop (mkF m 20 #[.val (.ref self), .val (.int (2 : Int32)), .val (.int (9 : Int32))] [(.ref b), (.int ((f 9) &&& (255 : Int32)))]))
  refine A (XS.iloadN X4.here hx rfl (hb hby d10_20) rfl) ?_
  show D (T4.setTop (mkF m 21 #[.val (.ref self), .val (.int (2 : Int32)), .val (.int (9 : Int32))] [(.int (9 : Int32)), (.ref b), (.int ((f 9) &&& (255 : Int32)))]))
  refine A (XS.iconst X4.here hx rfl (hb hby d10_21)) ?_
  show D (T4.setTop (mkF m 22 #[.val (.ref self), .val (.int (2 : Int32)), .val (.int (9 : Int32))] [(.int (1 : Int32)), (.int (9 : Int32)), (.ref b), (.int ((f 9) &&& (255 : Int32)))]))
  refine A (XS.iadd X4.here hx rfl (hb hby d10_22) rfl) ?_
  show D (T4.setTop (mkF m 23 #[.val (.ref self), .val (.int (2 : Int32)), .val (.int (9 : Int32))] [(.int ((9 : Int32) + (1 : Int32))), (.ref b), (.int ((f 9) &&& (255 : Int32)))]))
  suffices Kq5 : ∀ q5 : Int32, q5 = (10 : Int32) → D (T4.setTop (mkF m 23 #[.val (.ref self), .val (.int (2 : Int32)), .val (.int (9 : Int32))] [(.int q5), (.ref b), (.int ((f 9) &&& (255 : Int32)))])) from Kq5 _ (by decide)
  rintro _ rfl
  show D (T4.setTop (mkF m 23 #[.val (.ref self), .val (.int (2 : Int32)), .val (.int (9 : Int32))] [(.int (10 : Int32)), (.ref b), (.int ((f 9) &&& (255 : Int32)))]))
  refine Adv.ldB A X4 hx hZ e4 V_b (k := 10) (by decide) (by decide) (g := (mkF m 23 #[.val (.ref self), .val (.int (2 : Int32)), .val (.int (9 : Int32))] [(.int (10 : Int32)), (.ref b), (.int ((f 9) &&& (255 : Int32)))])) rfl rfl (hb hby d10_23) ?_
  show D (T4.setTop (mkF m 24 #[.val (.ref self), .val (.int (2 : Int32)), .val (.int (9 : Int32))] [(.int (f 10)), (.int ((f 9) &&& (255 : Int32)))]))
  refine A (XS.sipush X4.here hx rfl (hb hby d10_24)) ?_
  show D (T4.setTop (mkF m 27 #[.val (.ref self), .val (.int (2 : Int32)), .val (.int (9 : Int32))] [(.int (255 : Int32)), (.int (f 10)), (.int ((f 9) &&& (255 : Int32)))]))
  refine A (XS.iand X4.here hx rfl (hb hby d10_27) rfl) ?_
  show D (T4.setTop (mkF m 28 #[.val (.ref self), .val (.int (2 : Int32)), .val (.int (9 : Int32))] [(.int ((f 10) &&& (255 : Int32))), (.int ((f 9) &&& (255 : Int32)))]))
  refine A (XS.bipush X4.here hx rfl (hb hby d10_28)) ?_
  show D (T4.setTop (mkF m 30 #[.val (.ref self), .val (.int (2 : Int32)), .val (.int (9 : Int32))] [(.int (8 : Int32)), (.int ((f 10) &&& (255 : Int32))), (.int ((f 9) &&& (255 : Int32)))]))
  refine A (XS.ishl X4.here hx rfl (hb hby d10_30) rfl) ?_
  show D (T4.setTop (mkF m 31 #[.val (.ref self), .val (.int (2 : Int32)), .val (.int (9 : Int32))] [(.int (((f 10) &&& (255 : Int32)) <<< ((8 : Int32) &&& 31))), (.int ((f 9) &&& (255 : Int32)))]))
  refine A (XS.ior X4.here hx rfl (hb hby d10_31) rfl) ?_
  show D (T4.setTop (mkF m 32 #[.val (.ref self), .val (.int (2 : Int32)), .val (.int (9 : Int32))] [(.int (((f 9) &&& (255 : Int32)) ||| (((f 10) &&& (255 : Int32)) <<< ((8 : Int32) &&& 31))))]))
  refine A (XS.aloadN X4.here hx rfl (hb hby d10_32) rfl rfl) ?_
  show D (T4.setTop (mkF m 33 #[.val (.ref self), .val (.int (2 : Int32)), .val (.int (9 : Int32))] [(.ref self), (.int (((f 9) &&& (255 : Int32)) ||| (((f 10) &&& (255 : Int32)) <<< ((8 : Int32) &&& 31))))]))
  obtain ⟨T6, X6, e6, st6⟩ := getF X4 hx hZ hown (host := "") (Or.inl (hw _ (List.mem_of_getElem? (i := 10) rfl))) Via.refl e4 F_bytes (g := (mkF m 33 #[.val (.ref self), .val (.int (2 : Int32)), .val (.int (9 : Int32))] [(.ref self), (.int (((f 9) &&& (255 : Int32)) ||| (((f 10) &&& (255 : Int32)) <<< ((8 : Int32) &&& 31))))])) rfl rfl (hb hby d10_33)
  refine A (st6 _) ?_
  show D (T6.setTop (mkF m 36 #[.val (.ref self), .val (.int (2 : Int32)), .val (.int (9 : Int32))] [(.ref b), (.int (((f 9) &&& (255 : Int32)) ||| (((f 10) &&& (255 : Int32)) <<< ((8 : Int32) &&& 31))))]))
  refine A (XS.iloadN X6.here hx rfl (hb hby d10_36) rfl) ?_
  show D (T6.setTop (mkF m 37 #[.val (.ref self), .val (.int (2 : Int32)), .val (.int (9 : Int32))] [(.int (9 : Int32)), (.ref b), (.int (((f 9) &&& (255 : Int32)) ||| (((f 10) &&& (255 : Int32)) <<< ((8 : Int32) &&& 31))))]))
  refine A (XS.iconst X6.here hx rfl (hb hby d10_37)) ?_
  show D (T6.setTop (mkF m 38 #[.val (.ref self), .val (.int (2 : Int32)), .val (.int (9 : Int32))] [(.int (2 : Int32)), (.int (9 : Int32)), (.ref b), (.int (((f 9) &&& (255 : Int32)) ||| (((f 10) &&& (255 : Int32)) <<< ((8 : Int32) &&& 31))))]))
  refine A (XS.iadd X6.here hx rfl (hb hby d10_38) rfl) ?_
  show D (T6.setTop (mkF m 39 #[.val (.ref self), .val (.int (2 : Int32)), .val (.int (9 : Int32))] [(.int ((9 : Int32) + (2 : Int32))), (.ref b), (.int (((f 9) &&& (255 : Int32)) ||| (((f 10) &&& (255 : Int32)) <<< ((8 : Int32) &&& 31))))]))
  suffices Kq7 : ∀ q7 : Int32, q7 = (11 : Int32) → D (T6.setTop (mkF m 39 #[.val (.ref self), .val (.int (2 : Int32)), .val (.int (9 : Int32))] [(.int q7), (.ref b), (.int (((f 9) &&& (255 : Int32)) ||| (((f 10) &&& (255 : Int32)) <<< ((8 : Int32) &&& 31))))])) from Kq7 _ (by decide)
  rintro _ rfl
  show D (T6.setTop (mkF m 39 #[.val (.ref self), .val (.int (2 : Int32)), .val (.int (9 : Int32))] [(.int (11 : Int32)), (.ref b), (.int (((f 9) &&& (255 : Int32)) ||| (((f 10) &&& (255 : Int32)) <<< ((8 : Int32) &&& 31))))]))
  refine Adv.ldB A X6 hx hZ e6 V_b (k := 11) (by decide) (by decide) (g := (mkF m 39 #[.val (.ref self), .val (.int (2 : Int32)), .val (.int (9 : Int32))] [(.int (11 : Int32)), (.ref b), (.int (((f 9) &&& (255 : Int32)) ||| (((f 10) &&& (255 : Int32)) <<< ((8 : Int32) &&& 31))))])) rfl rfl (hb hby d10_39) ?_
  show D (T6.setTop (mkF m 40 #[.val (.ref self), .val (.int (2 : Int32)), .val (.int (9 : Int32))] [(.int (f 11)), (.int (((f 9) &&& (255 : Int32)) ||| (((f 10) &&& (255 : Int32)) <<< ((8 : Int32) &&& 31))))]))
  refine A (XS.sipush X6.here hx rfl (hb hby d10_40)) ?_
  show D (T6.setTop (mkF m 43 #[.val (.ref self), .val (.int (2 : Int32)), .val (.int (9 : Int32))] [(.int (255 : Int32)), (.int (f 11)), (.int (((f 9) &&& (255 : Int32)) ||| (((f 10) &&& (255 : Int32)) <<< ((8 : Int32) &&& 31))))]))
  refine A (XS.iand X6.here hx rfl (hb hby d10_43) rfl) ?_
  show D (T6.setTop (mkF m 44 #[.val (.ref self), .val (.int (2 : Int32)), .val (.int (9 : Int32))] [(.int ((f 11) &&& (255 : Int32))), (.int (((f 9) &&& (255 : Int32)) ||| (((f 10) &&& (255 : Int32)) <<< ((8 : Int32) &&& 31))))]))
  refine A (XS.bipush X6.here hx rfl (hb hby d10_44)) ?_
  show D (T6.setTop (mkF m 46 #[.val (.ref self), .val (.int (2 : Int32)), .val (.int (9 : Int32))] [(.int (16 : Int32)), (.int ((f 11) &&& (255 : Int32))), (.int (((f 9) &&& (255 : Int32)) ||| (((f 10) &&& (255 : Int32)) <<< ((8 : Int32) &&& 31))))]))
  refine A (XS.ishl X6.here hx rfl (hb hby d10_46) rfl) ?_
  show D (T6.setTop (mkF m 47 #[.val (.ref self), .val (.int (2 : Int32)), .val (.int (9 : Int32))] [(.int (((f 11) &&& (255 : Int32)) <<< ((16 : Int32) &&& 31))), (.int (((f 9) &&& (255 : Int32)) ||| (((f 10) &&& (255 : Int32)) <<< ((8 : Int32) &&& 31))))]))
  refine A (XS.ior X6.here hx rfl (hb hby d10_47) rfl) ?_
  show D (T6.setTop (mkF m 48 #[.val (.ref self), .val (.int (2 : Int32)), .val (.int (9 : Int32))] [(.int ((((f 9) &&& (255 : Int32)) ||| (((f 10) &&& (255 : Int32)) <<< ((8 : Int32) &&& 31))) ||| (((f 11) &&& (255 : Int32)) <<< ((16 : Int32) &&& 31))))]))
  refine A (XS.aloadN X6.here hx rfl (hb hby d10_48) rfl rfl) ?_
  show D (T6.setTop (mkF m 49 #[.val (.ref self), .val (.int (2 : Int32)), .val (.int (9 : Int32))] [(.ref self), (.int ((((f 9) &&& (255 : Int32)) ||| (((f 10) &&& (255 : Int32)) <<< ((8 : Int32) &&& 31))) ||| (((f 11) &&& (255 : Int32)) <<< ((16 : Int32) &&& 31))))]))
  obtain ⟨T8, X8, e8, st8⟩ := getF X6 hx hZ hown (host := "") (Or.inl (hw _ (List.mem_of_getElem? (i := 10) rfl))) Via.refl e6 F_bytes (g := (mkF m 49 #[.val (.ref self), .val (.int (2 : Int32)), .val (.int (9 : Int32))] [(.ref self), (.int ((((f 9) &&& (255 : Int32)) ||| (((f 10) &&& (255 : Int32)) <<< ((8 : Int32) &&& 31))) ||| (((f 11) &&& (255 : Int32)) <<< ((16 : Int32) &&& 31))))])) rfl rfl (hb hby d10_49)
  refine A (st8 _) ?_
  show D (T8.setTop (mkF m 52 #[.val (.ref self), .val (.int (2 : Int32)), .val (.int (9 : Int32))] [(.ref b), (.int ((((f 9) &&& (255 : Int32)) ||| (((f 10) &&& (255 : Int32)) <<< ((8 : Int32) &&& 31))) ||| (((f 11) &&& (255 : Int32)) <<< ((16 : Int32) &&& 31))))]))
  refine A (XS.iloadN X8.here hx rfl (hb hby d10_52) rfl) ?_
  show D (T8.setTop (mkF m 53 #[.val (.ref self), .val (.int (2 : Int32)), .val (.int (9 : Int32))] [(.int (9 : Int32)), (.ref b), (.int ((((f 9) &&& (255 : Int32)) ||| (((f 10) &&& (255 : Int32)) <<< ((8 : Int32) &&& 31))) ||| (((f 11) &&& (255 : Int32)) <<< ((16 : Int32) &&& 31))))]))
  refine A (XS.iconst X8.here hx rfl (hb hby d10_53)) ?_
  show D (T8.setTop (mkF m 54 #[.val (.ref self), .val (.int (2 : Int32)), .val (.int (9 : Int32))] [(.int (3 : Int32)), (.int (9 : Int32)), (.ref b), (.int ((((f 9) &&& (255 : Int32)) ||| (((f 10) &&& (255 : Int32)) <<< ((8 : Int32) &&& 31))) ||| (((f 11) &&& (255 : Int32)) <<< ((16 : Int32) &&& 31))))]))
  refine A (XS.iadd X8.here hx rfl (hb hby d10_54) rfl) ?_
  show D (T8.setTop (mkF m 55 #[.val (.ref self), .val (.int (2 : Int32)), .val (.int (9 : Int32))] [(.int ((9 : Int32) + (3 : Int32))), (.ref b), (.int ((((f 9) &&& (255 : Int32)) ||| (((f 10) &&& (255 : Int32)) <<< ((8 : Int32) &&& 31))) ||| (((f 11) &&& (255 : Int32)) <<< ((16 : Int32) &&& 31))))]))
  suffices Kq9 : ∀ q9 : Int32, q9 = (12 : Int32) → D (T8.setTop (mkF m 55 #[.val (.ref self), .val (.int (2 : Int32)), .val (.int (9 : Int32))] [(.int q9), (.ref b), (.int ((((f 9) &&& (255 : Int32)) ||| (((f 10) &&& (255 : Int32)) <<< ((8 : Int32) &&& 31))) ||| (((f 11) &&& (255 : Int32)) <<< ((16 : Int32) &&& 31))))])) from Kq9 _ (by decide)
  rintro _ rfl
  show D (T8.setTop (mkF m 55 #[.val (.ref self), .val (.int (2 : Int32)), .val (.int (9 : Int32))] [(.int (12 : Int32)), (.ref b), (.int ((((f 9) &&& (255 : Int32)) ||| (((f 10) &&& (255 : Int32)) <<< ((8 : Int32) &&& 31))) ||| (((f 11) &&& (255 : Int32)) <<< ((16 : Int32) &&& 31))))]))
  refine Adv.ldB A X8 hx hZ e8 V_b (k := 12) (by decide) (by decide) (g := (mkF m 55 #[.val (.ref self), .val (.int (2 : Int32)), .val (.int (9 : Int32))] [(.int (12 : Int32)), (.ref b), (.int ((((f 9) &&& (255 : Int32)) ||| (((f 10) &&& (255 : Int32)) <<< ((8 : Int32) &&& 31))) ||| (((f 11) &&& (255 : Int32)) <<< ((16 : Int32) &&& 31))))])) rfl rfl (hb hby d10_55) ?_
  show D (T8.setTop (mkF m 56 #[.val (.ref self), .val (.int (2 : Int32)), .val (.int (9 : Int32))] [(.int (f 12)), (.int ((((f 9) &&& (255 : Int32)) ||| (((f 10) &&& (255 : Int32)) <<< ((8 : Int32) &&& 31))) ||| (((f 11) &&& (255 : Int32)) <<< ((16 : Int32) &&& 31))))]))
  refine A (XS.bipush X8.here hx rfl (hb hby d10_56)) ?_
  show D (T8.setTop (mkF m 58 #[.val (.ref self), .val (.int (2 : Int32)), .val (.int (9 : Int32))] [(.int (24 : Int32)), (.int (f 12)), (.int ((((f 9) &&& (255 : Int32)) ||| (((f 10) &&& (255 : Int32)) <<< ((8 : Int32) &&& 31))) ||| (((f 11) &&& (255 : Int32)) <<< ((16 : Int32) &&& 31))))]))
  refine A (XS.ishl X8.here hx rfl (hb hby d10_58) rfl) ?_
  show D (T8.setTop (mkF m 59 #[.val (.ref self), .val (.int (2 : Int32)), .val (.int (9 : Int32))] [(.int ((f 12) <<< ((24 : Int32) &&& 31))), (.int ((((f 9) &&& (255 : Int32)) ||| (((f 10) &&& (255 : Int32)) <<< ((8 : Int32) &&& 31))) ||| (((f 11) &&& (255 : Int32)) <<< ((16 : Int32) &&& 31))))]))
  refine A (XS.ior X8.here hx rfl (hb hby d10_59) rfl) ?_
  show D (T8.setTop (mkF m 60 #[.val (.ref self), .val (.int (2 : Int32)), .val (.int (9 : Int32))] [(.int (((((f 9) &&& (255 : Int32)) ||| (((f 10) &&& (255 : Int32)) <<< ((8 : Int32) &&& 31))) ||| (((f 11) &&& (255 : Int32)) <<< ((16 : Int32) &&& 31))) ||| ((f 12) <<< ((24 : Int32) &&& 31))))]))
  refine F _ (Jvm.JW.ret X8 hlk (v := some (.int (((((f 9) &&& (255 : Int32)) ||| (((f 10) &&& (255 : Int32)) <<< ((8 : Int32) &&& 31))) ||| (((f 11) &&& (255 : Int32)) <<< ((16 : Int32) &&& 31))) ||| ((f 12) <<< ((24 : Int32) &&& 31))))) (fun h => by rw [hrt] at h; cases h) (fun fs hr => retOut X8 hx hrt rfl (Or.inl ⟨rfl, Or.inl rfl, _, rfl⟩) (hb hby d10_60) hr) rfl ?_ (by decide) (by decide))
  exact ⟨rfl, (Fr.nil n0), e8⟩
theorem own_orl (a b : Int32) (k : Nat) (hk : k ≤ 31) (P : Int) (hP : P = (2 ^ k : Nat)) (h1 : b.toInt % P = 0) (h2 : 0 ≤ a.toInt) (h3 : a.toInt < P) : ((a ||| b).toInt - (a.toInt + b.toInt)) % 4294967296 = 0 := by
  have := c_or b a k hk P hP h1 h2 h3
  rw [Int32.or_comm]; omega
theorem own_glue (s a b c d : Int32) (ha : a = (s.toInt8.toInt32)) (hb : b = (((s.toUInt32 >>> ((8 : Int32) &&& 31).toUInt32).toInt32).toInt8.toInt32)) (hc : c = (((s.toUInt32 >>> ((16 : Int32) &&& 31).toUInt32).toInt32).toInt8.toInt32)) (hd : d = (((s.toUInt32 >>> ((24 : Int32) &&& 31).toUInt32).toInt32).toInt8.toInt32)) :
    ((((a &&& (255 : Int32)) ||| ((b &&& (255 : Int32)) <<< ((8 : Int32) &&& 31))) ||| ((c &&& (255 : Int32)) <<< ((16 : Int32) &&& 31))) ||| (d <<< ((24 : Int32) &&& 31))) = s := by
  have r := rng32 s
  have a1 := c_i2b s; rw [← ha] at a1
  have b0 := c_iushr s 8 8 (by decide) (by decide)
  have b1 := c_i2b ((s.toUInt32 >>> ((8 : Int32) &&& 31).toUInt32).toInt32); rw [← hb] at b1
  have c0 := c_iushr s 16 16 (by decide) (by decide)
  have c1 := c_i2b ((s.toUInt32 >>> ((16 : Int32) &&& 31).toUInt32).toInt32); rw [← hc] at c1
  have d0 := c_iushr s 24 24 (by decide) (by decide)
  have d1 := c_i2b ((s.toUInt32 >>> ((24 : Int32) &&& 31).toUInt32).toInt32); rw [← hd] at d1
  have a2 := c_mask a 255 8 (by decide) (by decide)
  have b2 := c_mask b 255 8 (by decide) (by decide)
  have c2 := c_mask c 255 8 (by decide) (by decide)
  have b3 := c_ishl (b &&& 255) 8 8 (by decide)
  have c3 := c_ishl (c &&& 255) 16 16 (by decide)
  have d3 := c_ishl d 24 24 (by decide)
  have rb := rng32 ((b &&& 255) <<< ((8 : Int32) &&& 31))
  have rc := rng32 ((c &&& 255) <<< ((16 : Int32) &&& 31))
  have rd := rng32 (d <<< ((24 : Int32) &&& 31))
  have o1 := own_orl (a &&& 255) ((b &&& 255) <<< ((8 : Int32) &&& 31)) 8 (by decide) 256 (by decide) (by omega) (by omega) (by omega)
  have ro1 := rng32 ((a &&& 255) ||| ((b &&& 255) <<< ((8 : Int32) &&& 31)))
  have o2 := own_orl ((a &&& 255) ||| ((b &&& 255) <<< ((8 : Int32) &&& 31))) ((c &&& 255) <<< ((16 : Int32) &&& 31)) 16 (by decide) 65536 (by decide) (by omega) (by omega) (by omega)
  have ro2 := rng32 (((a &&& 255) ||| ((b &&& 255) <<< ((8 : Int32) &&& 31))) ||| ((c &&& 255) <<< ((16 : Int32) &&& 31)))
  have o3 := own_orl (((a &&& 255) ||| ((b &&& 255) <<< ((8 : Int32) &&& 31))) ||| ((c &&& 255) <<< ((16 : Int32) &&& 31))) (d <<< ((24 : Int32) &&& 31)) 24 (by decide) 16777216 (by decide) (by omega) (by omega) (by omega)
  have ro3 := rng32 ((((a &&& 255) ||| ((b &&& 255) <<< ((8 : Int32) &&& 31))) ||| ((c &&& 255) <<< ((16 : Int32) &&& 31))) ||| (d <<< ((24 : Int32) &&& 31)))
  apply Int32.toInt_inj.mp
  omega
theorem pn0 : plainFor x = true := by decide +kernel
theorem pd0_0 : parseMethodDescriptor "()V" = some ⟨[], none⟩ := by decide +kernel
theorem pd0_1 : parseMethodDescriptor "(III)V" = some ⟨[.int, .int, .int], none⟩ := by decide +kernel
theorem pd0_2 : parseMethodDescriptor "()[B" = some ⟨[], some (.array .byte)⟩ := by decide +kernel
theorem pd0_3 : parseMethodDescriptor "()I" = some ⟨[], some .int⟩ := by decide +kernel
theorem pd0_4 : parseMethodDescriptor "([BII)Z" = some ⟨[(.array .byte), .int, .int], some .boolean⟩ := by decide +kernel
theorem pd0_5 : parseMethodDescriptor "(I)I" = some ⟨[.int], some .int⟩ := by decide +kernel
theorem ef0 (p1 : Int32) (p2 : Int32) (p3 : Int32) (m : MethodId) : entryFrame m #[(.int p1), (.int p2), (.int p3)] maxLocals = mkF m 0 #[.val (.int p1), .val (.int p2), .val (.int p3), .unset, .unset, .unset] [] := by first | (simp [entryFrame, mkF, argsToLocals, Value.category, maxLocals]; done) | rfl
set_option maxRecDepth 65536 in
set_option maxHeartbeats 40000000 in
theorem rm0 (l : Launch) (Z : State) (a0 : Array Value) (hw : ∀ d ∈ tables_1, d.before a0 Z = true) (ws : List Jvm.Cond) (p1 : Int32) (p2 : Int32) (p3 : Int32) (h0 : Heap) (n0 : Nat) (Z0 : n0 ≤ h0.size) :
    JMet l Z x code maxLocals ret ws room_1 #[(.int p1), (.int p2), (.int p3)] h0 (QL n0) := by
  refine Jvm.JW.body #[.val (.int p1), .val (.int p2), .val (.int p3), .unset, .unset, .unset] pn0 (ef0 p1 p2 p3) ?_
  intro p e s m below meth c T0 D A F X0 hx hZ hby hml hown hnm hrt hlk e0
  obtain ⟨T1, h1, X1, e1, E1, A1, D1, -, st1⟩ := newO X0 hx hZ hown (hw _ (List.mem_of_getElem? (i := 0) rfl)) (hw _ (List.mem_of_getElem? (i := 1) rfl)) (hw _ (List.mem_of_getElem? (i := 2) rfl)) e0 (g := (mkF m 0 #[.val (.int p1), .val (.int p2), .val (.int p3), .unset, .unset, .unset] [])) rfl (hb hby at_0) (by decide) (by decide)
  obtain ⟨b1, q_b1⟩ : ∃ z, z = h0.size := ⟨_, rfl⟩
  rw [← q_b1] at A1 D1 st1
  have g_b1 : n0 ≤ b1 := Nat.le_trans Z0 (Nat.le_of_eq q_b1.symm)
  have Z_1 : n0 ≤ h1.size := Nat.le_trans Z0 E1.1
  have F_bytes_b1 : Fld Z h1 b1 "quoth/store/Record" "bytes" "[B" .null := D1 (Or.inl (hw _ (List.mem_of_getElem? (i := 11) rfl))) (ty := (.array .byte)) (by decide)
  have F_length_b1 : Fld Z h1 b1 "quoth/store/Record" "length" "I" (.int (0 : Int32)) := D1 (Or.inl (hw _ (List.mem_of_getElem? (i := 22) rfl))) (ty := .int) (by decide)
  refine A (st1 _) ?_
  show D (T1.setTop (mkF m 3 #[.val (.int p1), .val (.int p2), .val (.int p3), .unset, .unset, .unset] [(.ref b1)]))
  refine A (XS.dup X1.here hx rfl (hb hby at_3) rfl rfl) ?_
  show D (T1.setTop (mkF m 4 #[.val (.int p1), .val (.int p2), .val (.int p3), .unset, .unset, .unset] [(.ref b1), (.ref b1)]))
  refine Adv.callI A X1 hx hZ hown rfl (hw _ (List.mem_of_getElem? (i := 3) rfl)) (hw _ (List.mem_of_getElem? (i := 4) rfl)) (hw _ (List.mem_of_getElem? (i := 2) rfl)) (hw _ (List.mem_of_getElem? (i := 5) rfl)) e1 (rm1 l Z a0 hw [] b1 h1 n0 Z_1 g_b1 A1 F_bytes_b1 F_length_b1) 1 (g := (mkF m 4 #[.val (.int p1), .val (.int p2), .val (.int p3), .unset, .unset, .unset] [(.ref b1), (.ref b1)])) rfl (by rw [hml]; rfl) b1 [] [(.ref b1)] rfl (lenOf pd0_0 rfl) rfl (by show 2 * 0 + _ ≤ _; exact Nat.le_of_eq rfl) (hb hby at_4) (by decide) (by decide) (by decide) (by decide) (by decide) ?_
  rintro T2 L2 _ X2 ⟨rfl, b2, N2_q, K2, -, Fb2, Fl2, V2_q, sz_b2⟩
  have N2 := Fr.app (Fr.nil n0) N2_q
  have g_b2 : n0 ≤ b2 := Nat.le_trans Z_1 sz_b2
  have E_b1_2 := A1.keep K2
  have Z_2 : n0 ≤ T2.heap.size := Nat.le_trans Z_1 K2.1
  show D (T2.setTop (mkF m 7 #[.val (.int p1), .val (.int p2), .val (.int p3), .unset, .unset, .unset] [(.ref b1)]))
  refine A (XS.astoreN X2.here hx rfl (hb hby at_7) rfl rfl (l' := #[.val (.int p1), .val (.int p2), .val (.int p3), .val (.ref b1), .unset, .unset]) rfl) ?_
  show D (T2.setTop (mkF m 8 #[.val (.int p1), .val (.int p2), .val (.int p3), .val (.ref b1), .unset, .unset] []))
  refine A (XS.aloadN X2.here hx rfl (hb hby at_8) rfl rfl) ?_
  show D (T2.setTop (mkF m 9 #[.val (.int p1), .val (.int p2), .val (.int p3), .val (.ref b1), .unset, .unset] [(.ref b1)]))
  refine A (XS.iloadN X2.here hx rfl (hb hby at_9) rfl) ?_
  show D (T2.setTop (mkF m 10 #[.val (.int p1), .val (.int p2), .val (.int p3), .val (.ref b1), .unset, .unset] [(.int p1), (.ref b1)]))
  refine A (XS.iloadN X2.here hx rfl (hb hby at_10) rfl) ?_
  show D (T2.setTop (mkF m 11 #[.val (.int p1), .val (.int p2), .val (.int p3), .val (.ref b1), .unset, .unset] [(.int p2), (.int p1), (.ref b1)]))
  refine A (XS.iloadN X2.here hx rfl (hb hby at_11) rfl) ?_
  show D (T2.setTop (mkF m 12 #[.val (.int p1), .val (.int p2), .val (.int p3), .val (.ref b1), .unset, .unset] [(.int p3), (.int p2), (.int p1), (.ref b1)]))
  refine Adv.callV A X2 hx hZ hown (hw _ (List.mem_of_getElem? (i := 12) rfl)) (hw _ (List.mem_of_getElem? (i := 13) rfl)) (notFace_of_selects (args := #[]) (mvT hZ (hw _ (List.mem_of_getElem? (i := 15) rfl)))) (hw _ (List.mem_of_getElem? (i := 15) rfl)) (hw _ (List.mem_of_getElem? (i := 14) rfl)) (hw _ (List.mem_of_getElem? (i := 2) rfl)) (hw _ (List.mem_of_getElem? (i := 16) rfl)) rfl E_b1_2 (rm3 l Z a0 hw [] b1 p1 p2 p3 T2.heap n0 b2 (0 : Int32) (fun _ => 0) Z_2 g_b1 g_b2 E_b1_2 Fb2 Fl2 V2_q) 0 (g := (mkF m 12 #[.val (.int p1), .val (.int p2), .val (.int p3), .val (.ref b1), .unset, .unset] [(.int p3), (.int p2), (.int p1), (.ref b1)])) rfl (by rw [hml]; rfl) [(.int p1), (.int p2), (.int p3)] [] rfl (lenOf pd0_1 rfl) rfl (by show 2 * 0 + _ ≤ _; exact Nat.le_of_eq rfl) (hb hby at_12) (by decide) (by decide) (by decide) (by decide) (by decide) ?_
  rintro T3 L3 _ X3 ⟨rfl, N3_q, K3, -, Fb3, Fl3, V3_q⟩
  have N3 := Fr.app N2 N3_q
  have E_b1_3 := E_b1_2.keep K3
  have Z_3 : n0 ≤ T3.heap.size := Nat.le_trans Z_2 K3.1
  show D (T3.setTop (mkF m 15 #[.val (.int p1), .val (.int p2), .val (.int p3), .val (.ref b1), .unset, .unset] []))
  refine A (XS.aloadN X3.here hx rfl (hb hby at_15) rfl rfl) ?_
  show D (T3.setTop (mkF m 16 #[.val (.int p1), .val (.int p2), .val (.int p3), .val (.ref b1), .unset, .unset] [(.ref b1)]))
  refine Adv.callV A X3 hx hZ hown (hw _ (List.mem_of_getElem? (i := 31) rfl)) (hw _ (List.mem_of_getElem? (i := 32) rfl)) (notFace_of_selects (args := #[]) (mvT hZ (hw _ (List.mem_of_getElem? (i := 34) rfl)))) (hw _ (List.mem_of_getElem? (i := 34) rfl)) (hw _ (List.mem_of_getElem? (i := 33) rfl)) (hw _ (List.mem_of_getElem? (i := 2) rfl)) (hw _ (List.mem_of_getElem? (i := 35) rfl)) rfl E_b1_3 (rm7 l Z a0 hw [] b1 T3.heap n0 b2 Fb3) 0 (g := (mkF m 16 #[.val (.int p1), .val (.int p2), .val (.int p3), .val (.ref b1), .unset, .unset] [(.ref b1)])) rfl (by rw [hml]; rfl) [] [] rfl (lenOf pd0_2 rfl) rfl (by show 2 * 0 + _ ≤ _; exact Nat.le_of_eq rfl) (hb hby at_16) (by decide) (by decide) (by decide) (by decide) (by decide) ?_
  rintro T4 L4 _ X4 ⟨rfl, N4_q, e4⟩
  have N4 := Fr.app N3 N4_q
  show D (T4.setTop (mkF m 19 #[.val (.int p1), .val (.int p2), .val (.int p3), .val (.ref b1), .unset, .unset] [(.ref b2)]))
  refine A (XS.astore X4.here hx rfl (hb hby at_19) rfl rfl (l' := #[.val (.int p1), .val (.int p2), .val (.int p3), .val (.ref b1), .val (.ref b2), .unset]) rfl) ?_
  show D (T4.setTop (mkF m 21 #[.val (.int p1), .val (.int p2), .val (.int p3), .val (.ref b1), .val (.ref b2), .unset] []))
  refine A (XS.aloadN X4.here hx rfl (hb hby at_21) rfl rfl) ?_
  show D (T4.setTop (mkF m 22 #[.val (.int p1), .val (.int p2), .val (.int p3), .val (.ref b1), .val (.ref b2), .unset] [(.ref b1)]))
  refine Adv.callV A X4 hx hZ hown (hw _ (List.mem_of_getElem? (i := 36) rfl)) (hw _ (List.mem_of_getElem? (i := 37) rfl)) (notFace_of_selects (args := #[]) (mvT hZ (hw _ (List.mem_of_getElem? (i := 39) rfl)))) (hw _ (List.mem_of_getElem? (i := 39) rfl)) (hw _ (List.mem_of_getElem? (i := 38) rfl)) (hw _ (List.mem_of_getElem? (i := 2) rfl)) (hw _ (List.mem_of_getElem? (i := 40) rfl)) e4 E_b1_3 (rm8 l Z a0 hw [] b1 T3.heap n0 (13 : Int32) Fl3) 0 (g := (mkF m 22 #[.val (.int p1), .val (.int p2), .val (.int p3), .val (.ref b1), .val (.ref b2), .unset] [(.ref b1)])) rfl (by rw [hml]; rfl) [] [] rfl (lenOf pd0_3 rfl) rfl (by show 2 * 0 + _ ≤ _; exact Nat.le_of_eq rfl) (hb hby at_22) (by decide) (by decide) (by decide) (by decide) (by decide) ?_
  rintro T5 L5 _ X5 ⟨rfl, N5_q, e5⟩
  have N5 := Fr.app N4 N5_q
  show D (T5.setTop (mkF m 25 #[.val (.int p1), .val (.int p2), .val (.int p3), .val (.ref b1), .val (.ref b2), .unset] [(.int (13 : Int32))]))
  refine A (XS.bipush X5.here hx rfl (hb hby at_25)) ?_
  show D (T5.setTop (mkF m 27 #[.val (.int p1), .val (.int p2), .val (.int p3), .val (.ref b1), .val (.ref b2), .unset] [(.int (13 : Int32)), (.int (13 : Int32))]))
  refine A (XS.icmpNo X5.here hx rfl (hb hby at_27) rfl (teq (by decide : (13 : Int32) = (13 : Int32))).2) ?_
  show D (T5.setTop (mkF m 30 #[.val (.int p1), .val (.int p2), .val (.int p3), .val (.ref b1), .val (.ref b2), .unset] []))
  refine A (XS.aload X5.here hx rfl (hb hby at_30) rfl rfl) ?_
  show D (T5.setTop (mkF m 32 #[.val (.int p1), .val (.int p2), .val (.int p3), .val (.ref b1), .val (.ref b2), .unset] [(.ref b2)]))
  refine A (XS.iconst X5.here hx rfl (hb hby at_32)) ?_
  show D (T5.setTop (mkF m 33 #[.val (.int p1), .val (.int p2), .val (.int p3), .val (.ref b1), .val (.ref b2), .unset] [(.int (0 : Int32)), (.ref b2)]))
  refine Adv.ldB A X5 hx hZ e5 V3_q (k := 0) (by decide) (by decide) (g := (mkF m 33 #[.val (.int p1), .val (.int p2), .val (.int p3), .val (.ref b1), .val (.ref b2), .unset] [(.int (0 : Int32)), (.ref b2)])) rfl rfl (hb hby at_33) ?_
  show D (T5.setTop (mkF m 34 #[.val (.int p1), .val (.int p2), .val (.int p3), .val (.ref b1), .val (.ref b2), .unset] [(.int ((own_T p1 p2 p3) 0))]))
  refine A (XS.bipush X5.here hx rfl (hb hby at_34)) ?_
  show D (T5.setTop (mkF m 36 #[.val (.int p1), .val (.int p2), .val (.int p3), .val (.ref b1), .val (.ref b2), .unset] [(.int (8 : Int32)), (.int ((own_T p1 p2 p3) 0))]))
  by_cases c36_6 : ((own_T p1 p2 p3) 0) = (8 : Int32)
  · refine A (XS.icmpNo X5.here hx rfl (hb hby at_36) rfl (teq c36_6).2) ?_
    show D (T5.setTop (mkF m 39 #[.val (.int p1), .val (.int p2), .val (.int p3), .val (.ref b1), .val (.ref b2), .unset] []))
    refine A (XS.aload X5.here hx rfl (hb hby at_39) rfl rfl) ?_
    show D (T5.setTop (mkF m 41 #[.val (.int p1), .val (.int p2), .val (.int p3), .val (.ref b1), .val (.ref b2), .unset] [(.ref b2)]))
    refine A (XS.iconst X5.here hx rfl (hb hby at_41)) ?_
    show D (T5.setTop (mkF m 42 #[.val (.int p1), .val (.int p2), .val (.int p3), .val (.ref b1), .val (.ref b2), .unset] [(.int (1 : Int32)), (.ref b2)]))
    refine A (XS.iloadN X5.here hx rfl (hb hby at_42) rfl) ?_
    show D (T5.setTop (mkF m 43 #[.val (.int p1), .val (.int p2), .val (.int p3), .val (.ref b1), .val (.ref b2), .unset] [(.int p1), (.int (1 : Int32)), (.ref b2)]))
    refine Adv.callS A X5 hx hZ hown (hw _ (List.mem_of_getElem? (i := 41) rfl)) (hw _ (List.mem_of_getElem? (i := 42) rfl)) (hw _ (List.mem_of_getElem? (i := 43) rfl)) (hw _ (List.mem_of_getElem? (i := 44) rfl)) e5 (rm9 l Z a0 hw [] b2 (1 : Int32) p1 T3.heap n0 (own_T p1 p2 p3) 1 (by decide) (by decide) V3_q (own_t1_0 p1 p2 p3) (own_t1_1 p1 p2 p3) (own_t1_2 p1 p2 p3) (own_t1_3 p1 p2 p3)) 0 (g := (mkF m 43 #[.val (.int p1), .val (.int p2), .val (.int p3), .val (.ref b1), .val (.ref b2), .unset] [(.int p1), (.int (1 : Int32)), (.ref b2)])) rfl (by rw [hml]; rfl) [(.ref b2), (.int (1 : Int32)), (.int p1)] [] rfl (lenOf pd0_4 rfl) rfl (by show 2 * 0 + _ ≤ _; exact Nat.le_of_eq rfl) (hb hby at_43) (by decide) (by decide) (by decide) (by decide) (by decide) ?_
    rintro T7 L7 _ X7 ⟨rfl, N7_q, e7⟩
    have N7 := Fr.app N5 N7_q
    show D (T7.setTop (mkF m 46 #[.val (.int p1), .val (.int p2), .val (.int p3), .val (.ref b1), .val (.ref b2), .unset] [(.int (1 : Int32))]))
    refine A (XS.ifNo X7.here hx rfl (hb hby at_46) rfl ((if0 _ _).trans (feq (by decide : ¬ ((1 : Int32) = (0 : Int32)))).1)) ?_
    show D (T7.setTop (mkF m 49 #[.val (.int p1), .val (.int p2), .val (.int p3), .val (.ref b1), .val (.ref b2), .unset] []))
    refine A (XS.aload X7.here hx rfl (hb hby at_49) rfl rfl) ?_
    show D (T7.setTop (mkF m 51 #[.val (.int p1), .val (.int p2), .val (.int p3), .val (.ref b1), .val (.ref b2), .unset] [(.ref b2)]))
    refine A (XS.iconst X7.here hx rfl (hb hby at_51)) ?_
    show D (T7.setTop (mkF m 52 #[.val (.int p1), .val (.int p2), .val (.int p3), .val (.ref b1), .val (.ref b2), .unset] [(.int (5 : Int32)), (.ref b2)]))
    refine A (XS.iloadN X7.here hx rfl (hb hby at_52) rfl) ?_
    show D (T7.setTop (mkF m 53 #[.val (.int p1), .val (.int p2), .val (.int p3), .val (.ref b1), .val (.ref b2), .unset] [(.int p2), (.int (5 : Int32)), (.ref b2)]))
    refine Adv.callS A X7 hx hZ hown (hw _ (List.mem_of_getElem? (i := 41) rfl)) (hw _ (List.mem_of_getElem? (i := 42) rfl)) (hw _ (List.mem_of_getElem? (i := 43) rfl)) (hw _ (List.mem_of_getElem? (i := 44) rfl)) e7 (rm9 l Z a0 hw [] b2 (5 : Int32) p2 T3.heap n0 (own_T p1 p2 p3) 5 (by decide) (by decide) V3_q (own_t5_0 p1 p2 p3) (own_t5_1 p1 p2 p3) (own_t5_2 p1 p2 p3) (own_t5_3 p1 p2 p3)) 0 (g := (mkF m 53 #[.val (.int p1), .val (.int p2), .val (.int p3), .val (.ref b1), .val (.ref b2), .unset] [(.int p2), (.int (5 : Int32)), (.ref b2)])) rfl (by rw [hml]; rfl) [(.ref b2), (.int (5 : Int32)), (.int p2)] [] rfl (lenOf pd0_4 rfl) rfl (by show 2 * 0 + _ ≤ _; exact Nat.le_of_eq rfl) (hb hby at_53) (by decide) (by decide) (by decide) (by decide) (by decide) ?_
    rintro T8 L8 _ X8 ⟨rfl, N8_q, e8⟩
    have N8 := Fr.app N7 N8_q
    show D (T8.setTop (mkF m 56 #[.val (.int p1), .val (.int p2), .val (.int p3), .val (.ref b1), .val (.ref b2), .unset] [(.int (1 : Int32))]))
    refine A (XS.ifNo X8.here hx rfl (hb hby at_56) rfl ((if0 _ _).trans (feq (by decide : ¬ ((1 : Int32) = (0 : Int32)))).1)) ?_
    show D (T8.setTop (mkF m 59 #[.val (.int p1), .val (.int p2), .val (.int p3), .val (.ref b1), .val (.ref b2), .unset] []))
    refine A (XS.aload X8.here hx rfl (hb hby at_59) rfl rfl) ?_
    show D (T8.setTop (mkF m 61 #[.val (.int p1), .val (.int p2), .val (.int p3), .val (.ref b1), .val (.ref b2), .unset] [(.ref b2)]))
    refine A (XS.bipush X8.here hx rfl (hb hby at_61)) ?_
    show D (T8.setTop (mkF m 63 #[.val (.int p1), .val (.int p2), .val (.int p3), .val (.ref b1), .val (.ref b2), .unset] [(.int (9 : Int32)), (.ref b2)]))
    refine A (XS.iloadN X8.here hx rfl (hb hby at_63) rfl) ?_
    show D (T8.setTop (mkF m 64 #[.val (.int p1), .val (.int p2), .val (.int p3), .val (.ref b1), .val (.ref b2), .unset] [(.int p3), (.int (9 : Int32)), (.ref b2)]))
    refine Adv.callS A X8 hx hZ hown (hw _ (List.mem_of_getElem? (i := 41) rfl)) (hw _ (List.mem_of_getElem? (i := 42) rfl)) (hw _ (List.mem_of_getElem? (i := 43) rfl)) (hw _ (List.mem_of_getElem? (i := 44) rfl)) e8 (rm9 l Z a0 hw [] b2 (9 : Int32) p3 T3.heap n0 (own_T p1 p2 p3) 9 (by decide) (by decide) V3_q (own_t9_0 p1 p2 p3) (own_t9_1 p1 p2 p3) (own_t9_2 p1 p2 p3) (own_t9_3 p1 p2 p3)) 0 (g := (mkF m 64 #[.val (.int p1), .val (.int p2), .val (.int p3), .val (.ref b1), .val (.ref b2), .unset] [(.int p3), (.int (9 : Int32)), (.ref b2)])) rfl (by rw [hml]; rfl) [(.ref b2), (.int (9 : Int32)), (.int p3)] [] rfl (lenOf pd0_4 rfl) rfl (by show 2 * 0 + _ ≤ _; exact Nat.le_of_eq rfl) (hb hby at_64) (by decide) (by decide) (by decide) (by decide) (by decide) ?_
    rintro T9 L9 _ X9 ⟨rfl, N9_q, e9⟩
    have N9 := Fr.app N8 N9_q
    show D (T9.setTop (mkF m 67 #[.val (.int p1), .val (.int p2), .val (.int p3), .val (.ref b1), .val (.ref b2), .unset] [(.int (1 : Int32))]))
    refine A (XS.ifNo X9.here hx rfl (hb hby at_67) rfl ((if0 _ _).trans (feq (by decide : ¬ ((1 : Int32) = (0 : Int32)))).1)) ?_
    show D (T9.setTop (mkF m 70 #[.val (.int p1), .val (.int p2), .val (.int p3), .val (.ref b1), .val (.ref b2), .unset] []))
    refine A (XS.iconst X9.here hx rfl (hb hby at_70)) ?_
    show D (T9.setTop (mkF m 71 #[.val (.int p1), .val (.int p2), .val (.int p3), .val (.ref b1), .val (.ref b2), .unset] [(.int (1 : Int32))]))
    refine A (XS.goto X9.here hx rfl (pc0 := 71) (pc' := 75) rfl (hb hby at_71) (by decide) (by decide)) ?_
    show D (T9.setTop (mkF m 75 #[.val (.int p1), .val (.int p2), .val (.int p3), .val (.ref b1), .val (.ref b2), .unset] [(.int (1 : Int32))]))
    refine A (XS.istore X9.here hx rfl (hb hby at_75) rfl (l' := #[.val (.int p1), .val (.int p2), .val (.int p3), .val (.ref b1), .val (.ref b2), .val (.int (1 : Int32))]) rfl) ?_
    show D (T9.setTop (mkF m 77 #[.val (.int p1), .val (.int p2), .val (.int p3), .val (.ref b1), .val (.ref b2), .val (.int (1 : Int32))] []))
    refine A (XS.iload X9.here hx rfl (hb hby at_77) rfl) ?_
    show D (T9.setTop (mkF m 79 #[.val (.int p1), .val (.int p2), .val (.int p3), .val (.ref b1), .val (.ref b2), .val (.int (1 : Int32))] [(.int (1 : Int32))]))
    refine A (XS.ifNo X9.here hx rfl (hb hby at_79) rfl ((if0 _ _).trans (feq (by decide : ¬ ((1 : Int32) = (0 : Int32)))).1)) ?_
    show D (T9.setTop (mkF m 82 #[.val (.int p1), .val (.int p2), .val (.int p3), .val (.ref b1), .val (.ref b2), .val (.int (1 : Int32))] []))
    refine A (XS.aloadN X9.here hx rfl (hb hby at_82) rfl rfl) ?_
    show D (T9.setTop (mkF m 83 #[.val (.int p1), .val (.int p2), .val (.int p3), .val (.ref b1), .val (.ref b2), .val (.int (1 : Int32))] [(.ref b1)]))
    refine A (XS.iconst X9.here hx rfl (hb hby at_83)) ?_
    show D (T9.setTop (mkF m 84 #[.val (.int p1), .val (.int p2), .val (.int p3), .val (.ref b1), .val (.ref b2), .val (.int (1 : Int32))] [(.int (0 : Int32)), (.ref b1)]))
    refine Adv.callV A X9 hx hZ hown (hw _ (List.mem_of_getElem? (i := 45) rfl)) (hw _ (List.mem_of_getElem? (i := 46) rfl)) (notFace_of_selects (args := #[]) (mvT hZ (hw _ (List.mem_of_getElem? (i := 48) rfl)))) (hw _ (List.mem_of_getElem? (i := 48) rfl)) (hw _ (List.mem_of_getElem? (i := 47) rfl)) (hw _ (List.mem_of_getElem? (i := 2) rfl)) (hw _ (List.mem_of_getElem? (i := 49) rfl)) e9 E_b1_3 (rm10_0 l Z a0 hw [] b1 T3.heap n0 b2 (own_T p1 p2 p3) Fb3 V3_q) 0 (g := (mkF m 84 #[.val (.int p1), .val (.int p2), .val (.int p3), .val (.ref b1), .val (.ref b2), .val (.int (1 : Int32))] [(.int (0 : Int32)), (.ref b1)])) rfl (by rw [hml]; rfl) [(.int (0 : Int32))] [] rfl (lenOf pd0_5 rfl) rfl (by show 2 * 0 + _ ≤ _; exact Nat.le_of_eq rfl) (hb hby at_84) (by decide) (by decide) (by decide) (by decide) (by decide) ?_
    rintro T10 L10 _ X10 ⟨rfl, N10_q, e10⟩
    have N10 := Fr.app N9 N10_q
    show D (T10.setTop (mkF m 87 #[.val (.int p1), .val (.int p2), .val (.int p3), .val (.ref b1), .val (.ref b2), .val (.int (1 : Int32))] [(.int ((((((own_T p1 p2 p3) 1) &&& (255 : Int32)) ||| ((((own_T p1 p2 p3) 2) &&& (255 : Int32)) <<< ((8 : Int32) &&& 31))) ||| ((((own_T p1 p2 p3) 3) &&& (255 : Int32)) <<< ((16 : Int32) &&& 31))) ||| (((own_T p1 p2 p3) 4) <<< ((24 : Int32) &&& 31))))]))
    refine A (XS.iloadN X10.here hx rfl (hb hby at_87) rfl) ?_
    show D (T10.setTop (mkF m 88 #[.val (.int p1), .val (.int p2), .val (.int p3), .val (.ref b1), .val (.ref b2), .val (.int (1 : Int32))] [(.int p1), (.int ((((((own_T p1 p2 p3) 1) &&& (255 : Int32)) ||| ((((own_T p1 p2 p3) 2) &&& (255 : Int32)) <<< ((8 : Int32) &&& 31))) ||| ((((own_T p1 p2 p3) 3) &&& (255 : Int32)) <<< ((16 : Int32) &&& 31))) ||| (((own_T p1 p2 p3) 4) <<< ((24 : Int32) &&& 31))))]))
    by_cases c88_11 : ((((((own_T p1 p2 p3) 1) &&& (255 : Int32)) ||| ((((own_T p1 p2 p3) 2) &&& (255 : Int32)) <<< ((8 : Int32) &&& 31))) ||| ((((own_T p1 p2 p3) 3) &&& (255 : Int32)) <<< ((16 : Int32) &&& 31))) ||| (((own_T p1 p2 p3) 4) <<< ((24 : Int32) &&& 31))) = p1
    · refine A (XS.icmpNo X10.here hx rfl (hb hby at_88) rfl (teq c88_11).2) ?_
      show D (T10.setTop (mkF m 91 #[.val (.int p1), .val (.int p2), .val (.int p3), .val (.ref b1), .val (.ref b2), .val (.int (1 : Int32))] []))
      refine A (XS.aloadN X10.here hx rfl (hb hby at_91) rfl rfl) ?_
      show D (T10.setTop (mkF m 92 #[.val (.int p1), .val (.int p2), .val (.int p3), .val (.ref b1), .val (.ref b2), .val (.int (1 : Int32))] [(.ref b1)]))
      refine A (XS.iconst X10.here hx rfl (hb hby at_92)) ?_
      show D (T10.setTop (mkF m 93 #[.val (.int p1), .val (.int p2), .val (.int p3), .val (.ref b1), .val (.ref b2), .val (.int (1 : Int32))] [(.int (1 : Int32)), (.ref b1)]))
      refine Adv.callV A X10 hx hZ hown (hw _ (List.mem_of_getElem? (i := 45) rfl)) (hw _ (List.mem_of_getElem? (i := 46) rfl)) (notFace_of_selects (args := #[]) (mvT hZ (hw _ (List.mem_of_getElem? (i := 48) rfl)))) (hw _ (List.mem_of_getElem? (i := 48) rfl)) (hw _ (List.mem_of_getElem? (i := 47) rfl)) (hw _ (List.mem_of_getElem? (i := 2) rfl)) (hw _ (List.mem_of_getElem? (i := 49) rfl)) e10 E_b1_3 (rm10_1 l Z a0 hw [] b1 T3.heap n0 b2 (own_T p1 p2 p3) Fb3 V3_q) 0 (g := (mkF m 93 #[.val (.int p1), .val (.int p2), .val (.int p3), .val (.ref b1), .val (.ref b2), .val (.int (1 : Int32))] [(.int (1 : Int32)), (.ref b1)])) rfl (by rw [hml]; rfl) [(.int (1 : Int32))] [] rfl (lenOf pd0_5 rfl) rfl (by show 2 * 0 + _ ≤ _; exact Nat.le_of_eq rfl) (hb hby at_93) (by decide) (by decide) (by decide) (by decide) (by decide) ?_
      rintro T12 L12 _ X12 ⟨rfl, N12_q, e12⟩
      have N12 := Fr.app N10 N12_q
      show D (T12.setTop (mkF m 96 #[.val (.int p1), .val (.int p2), .val (.int p3), .val (.ref b1), .val (.ref b2), .val (.int (1 : Int32))] [(.int ((((((own_T p1 p2 p3) 5) &&& (255 : Int32)) ||| ((((own_T p1 p2 p3) 6) &&& (255 : Int32)) <<< ((8 : Int32) &&& 31))) ||| ((((own_T p1 p2 p3) 7) &&& (255 : Int32)) <<< ((16 : Int32) &&& 31))) ||| (((own_T p1 p2 p3) 8) <<< ((24 : Int32) &&& 31))))]))
      refine A (XS.iloadN X12.here hx rfl (hb hby at_96) rfl) ?_
      show D (T12.setTop (mkF m 97 #[.val (.int p1), .val (.int p2), .val (.int p3), .val (.ref b1), .val (.ref b2), .val (.int (1 : Int32))] [(.int p2), (.int ((((((own_T p1 p2 p3) 5) &&& (255 : Int32)) ||| ((((own_T p1 p2 p3) 6) &&& (255 : Int32)) <<< ((8 : Int32) &&& 31))) ||| ((((own_T p1 p2 p3) 7) &&& (255 : Int32)) <<< ((16 : Int32) &&& 31))) ||| (((own_T p1 p2 p3) 8) <<< ((24 : Int32) &&& 31))))]))
      by_cases c97_13 : ((((((own_T p1 p2 p3) 5) &&& (255 : Int32)) ||| ((((own_T p1 p2 p3) 6) &&& (255 : Int32)) <<< ((8 : Int32) &&& 31))) ||| ((((own_T p1 p2 p3) 7) &&& (255 : Int32)) <<< ((16 : Int32) &&& 31))) ||| (((own_T p1 p2 p3) 8) <<< ((24 : Int32) &&& 31))) = p2
      · refine A (XS.icmpNo X12.here hx rfl (hb hby at_97) rfl (teq c97_13).2) ?_
        show D (T12.setTop (mkF m 100 #[.val (.int p1), .val (.int p2), .val (.int p3), .val (.ref b1), .val (.ref b2), .val (.int (1 : Int32))] []))
        refine A (XS.aloadN X12.here hx rfl (hb hby at_100) rfl rfl) ?_
        show D (T12.setTop (mkF m 101 #[.val (.int p1), .val (.int p2), .val (.int p3), .val (.ref b1), .val (.ref b2), .val (.int (1 : Int32))] [(.ref b1)]))
        refine A (XS.iconst X12.here hx rfl (hb hby at_101)) ?_
        show D (T12.setTop (mkF m 102 #[.val (.int p1), .val (.int p2), .val (.int p3), .val (.ref b1), .val (.ref b2), .val (.int (1 : Int32))] [(.int (2 : Int32)), (.ref b1)]))
        refine Adv.callV A X12 hx hZ hown (hw _ (List.mem_of_getElem? (i := 45) rfl)) (hw _ (List.mem_of_getElem? (i := 46) rfl)) (notFace_of_selects (args := #[]) (mvT hZ (hw _ (List.mem_of_getElem? (i := 48) rfl)))) (hw _ (List.mem_of_getElem? (i := 48) rfl)) (hw _ (List.mem_of_getElem? (i := 47) rfl)) (hw _ (List.mem_of_getElem? (i := 2) rfl)) (hw _ (List.mem_of_getElem? (i := 49) rfl)) e12 E_b1_3 (rm10_2 l Z a0 hw [] b1 T3.heap n0 b2 (own_T p1 p2 p3) Fb3 V3_q) 0 (g := (mkF m 102 #[.val (.int p1), .val (.int p2), .val (.int p3), .val (.ref b1), .val (.ref b2), .val (.int (1 : Int32))] [(.int (2 : Int32)), (.ref b1)])) rfl (by rw [hml]; rfl) [(.int (2 : Int32))] [] rfl (lenOf pd0_5 rfl) rfl (by show 2 * 0 + _ ≤ _; exact Nat.le_of_eq rfl) (hb hby at_102) (by decide) (by decide) (by decide) (by decide) (by decide) ?_
        rintro T14 L14 _ X14 ⟨rfl, N14_q, e14⟩
        have N14 := Fr.app N12 N14_q
        show D (T14.setTop (mkF m 105 #[.val (.int p1), .val (.int p2), .val (.int p3), .val (.ref b1), .val (.ref b2), .val (.int (1 : Int32))] [(.int ((((((own_T p1 p2 p3) 9) &&& (255 : Int32)) ||| ((((own_T p1 p2 p3) 10) &&& (255 : Int32)) <<< ((8 : Int32) &&& 31))) ||| ((((own_T p1 p2 p3) 11) &&& (255 : Int32)) <<< ((16 : Int32) &&& 31))) ||| (((own_T p1 p2 p3) 12) <<< ((24 : Int32) &&& 31))))]))
        refine A (XS.iloadN X14.here hx rfl (hb hby at_105) rfl) ?_
        show D (T14.setTop (mkF m 106 #[.val (.int p1), .val (.int p2), .val (.int p3), .val (.ref b1), .val (.ref b2), .val (.int (1 : Int32))] [(.int p3), (.int ((((((own_T p1 p2 p3) 9) &&& (255 : Int32)) ||| ((((own_T p1 p2 p3) 10) &&& (255 : Int32)) <<< ((8 : Int32) &&& 31))) ||| ((((own_T p1 p2 p3) 11) &&& (255 : Int32)) <<< ((16 : Int32) &&& 31))) ||| (((own_T p1 p2 p3) 12) <<< ((24 : Int32) &&& 31))))]))
        suffices Km114_15 : ∀ (v114s0 : Int32), v114s0 = (if ((((((own_T p1 p2 p3) 9) &&& (255 : Int32)) ||| ((((own_T p1 p2 p3) 10) &&& (255 : Int32)) <<< ((8 : Int32) &&& 31))) ||| ((((own_T p1 p2 p3) 11) &&& (255 : Int32)) <<< ((16 : Int32) &&& 31))) ||| (((own_T p1 p2 p3) 12) <<< ((24 : Int32) &&& 31))) = p3 then (1 : Int32) else (0 : Int32)) → D (T14.setTop (mkF m 114 #[.val (.int p1), .val (.int p2), .val (.int p3), .val (.ref b1), .val (.ref b2), .val (.int (1 : Int32))] [(.int v114s0)])) by
          by_cases c106_3 : ((((((own_T p1 p2 p3) 9) &&& (255 : Int32)) ||| ((((own_T p1 p2 p3) 10) &&& (255 : Int32)) <<< ((8 : Int32) &&& 31))) ||| ((((own_T p1 p2 p3) 11) &&& (255 : Int32)) <<< ((16 : Int32) &&& 31))) ||| (((own_T p1 p2 p3) 12) <<< ((24 : Int32) &&& 31))) = p3
          · refine A (XS.icmpNo X14.here hx rfl (hb hby at_106) rfl (teq c106_3).2) ?_
            show D (T14.setTop (mkF m 109 #[.val (.int p1), .val (.int p2), .val (.int p3), .val (.ref b1), .val (.ref b2), .val (.int (1 : Int32))] []))
            refine A (XS.iconst X14.here hx rfl (hb hby at_109)) ?_
            show D (T14.setTop (mkF m 110 #[.val (.int p1), .val (.int p2), .val (.int p3), .val (.ref b1), .val (.ref b2), .val (.int (1 : Int32))] [(.int (1 : Int32))]))
            refine A (XS.goto X14.here hx rfl (pc0 := 110) (pc' := 114) rfl (hb hby at_110) (by decide) (by decide)) ?_
            show D (T14.setTop (mkF m 114 #[.val (.int p1), .val (.int p2), .val (.int p3), .val (.ref b1), .val (.ref b2), .val (.int (1 : Int32))] [(.int (1 : Int32))]))
            exact Km114_15 _ ((if_pos c106_3)).symm
          · refine A (XS.icmpYes X14.here hx rfl (pc0 := 106) (pc' := 113) rfl (hb hby at_106) rfl (feq c106_3).2 (by decide) (by decide)) ?_
            show D (T14.setTop (mkF m 113 #[.val (.int p1), .val (.int p2), .val (.int p3), .val (.ref b1), .val (.ref b2), .val (.int (1 : Int32))] []))
            refine A (XS.iconst X14.here hx rfl (hb hby at_113)) ?_
            show D (T14.setTop (mkF m 114 #[.val (.int p1), .val (.int p2), .val (.int p3), .val (.ref b1), .val (.ref b2), .val (.int (1 : Int32))] [(.int (0 : Int32))]))
            exact Km114_15 _ ((if_neg c106_3)).symm
        intro v114s0 hv114s0
        show D (T14.setTop (mkF m 114 #[.val (.int p1), .val (.int p2), .val (.int p3), .val (.ref b1), .val (.ref b2), .val (.int (1 : Int32))] [(.int v114s0)]))
        obtain rfl : v114s0 = (1 : Int32) := by
          rw [hv114s0, if_pos (own_glue p3 _ _ _ _ (own_t9_0 p1 p2 p3) (own_t9_1 p1 p2 p3) (own_t9_2 p1 p2 p3) (own_t9_3 p1 p2 p3))]
        show D (T14.setTop (mkF m 114 #[.val (.int p1), .val (.int p2), .val (.int p3), .val (.ref b1), .val (.ref b2), .val (.int (1 : Int32))] [(.int (1 : Int32))]))
        exact F _ (Jvm.JW.ret X14 hlk (v := some (.int (1 : Int32))) (fun h => by rw [hrt] at h; cases h) (fun fs hr => retOut X14 hx hrt rfl (Or.inl ⟨rfl, Or.inr (Or.inl rfl), _, rfl⟩) (hb hby at_114) hr) rfl ⟨rfl, N14⟩ (by decide) (by decide))
      · refine A (XS.icmpYes X12.here hx rfl (pc0 := 97) (pc' := 113) rfl (hb hby at_97) rfl (feq c97_13).2 (by decide) (by decide)) ?_
        show D (T12.setTop (mkF m 113 #[.val (.int p1), .val (.int p2), .val (.int p3), .val (.ref b1), .val (.ref b2), .val (.int (1 : Int32))] []))
        refine A (XS.iconst X12.here hx rfl (hb hby at_113)) ?_
        show D (T12.setTop (mkF m 114 #[.val (.int p1), .val (.int p2), .val (.int p3), .val (.ref b1), .val (.ref b2), .val (.int (1 : Int32))] [(.int (0 : Int32))]))
        exfalso
        first | exact absurd (own_glue p1 _ _ _ _ (own_t1_0 p1 p2 p3) (own_t1_1 p1 p2 p3) (own_t1_2 p1 p2 p3) (own_t1_3 p1 p2 p3)) (by assumption) | exact absurd (own_glue p2 _ _ _ _ (own_t5_0 p1 p2 p3) (own_t5_1 p1 p2 p3) (own_t5_2 p1 p2 p3) (own_t5_3 p1 p2 p3)) (by assumption) | exact absurd (rfl : own_T p1 p2 p3 0 = (8 : Int32)) (by assumption) | exact absurd (by decide) (by assumption)
    · refine A (XS.icmpYes X10.here hx rfl (pc0 := 88) (pc' := 113) rfl (hb hby at_88) rfl (feq c88_11).2 (by decide) (by decide)) ?_
      show D (T10.setTop (mkF m 113 #[.val (.int p1), .val (.int p2), .val (.int p3), .val (.ref b1), .val (.ref b2), .val (.int (1 : Int32))] []))
      refine A (XS.iconst X10.here hx rfl (hb hby at_113)) ?_
      show D (T10.setTop (mkF m 114 #[.val (.int p1), .val (.int p2), .val (.int p3), .val (.ref b1), .val (.ref b2), .val (.int (1 : Int32))] [(.int (0 : Int32))]))
      exfalso
      first | exact absurd (own_glue p1 _ _ _ _ (own_t1_0 p1 p2 p3) (own_t1_1 p1 p2 p3) (own_t1_2 p1 p2 p3) (own_t1_3 p1 p2 p3)) (by assumption) | exact absurd (own_glue p2 _ _ _ _ (own_t5_0 p1 p2 p3) (own_t5_1 p1 p2 p3) (own_t5_2 p1 p2 p3) (own_t5_3 p1 p2 p3)) (by assumption) | exact absurd (rfl : own_T p1 p2 p3 0 = (8 : Int32)) (by assumption) | exact absurd (by decide) (by assumption)
  · refine A (XS.icmpYes X5.here hx rfl (pc0 := 36) (pc' := 74) rfl (hb hby at_36) rfl (feq c36_6).2 (by decide) (by decide)) ?_
    show D (T5.setTop (mkF m 74 #[.val (.int p1), .val (.int p2), .val (.int p3), .val (.ref b1), .val (.ref b2), .unset] []))
    refine A (XS.iconst X5.here hx rfl (hb hby at_74)) ?_
    show D (T5.setTop (mkF m 75 #[.val (.int p1), .val (.int p2), .val (.int p3), .val (.ref b1), .val (.ref b2), .unset] [(.int (0 : Int32))]))
    refine A (XS.istore X5.here hx rfl (hb hby at_75) rfl (l' := #[.val (.int p1), .val (.int p2), .val (.int p3), .val (.ref b1), .val (.ref b2), .val (.int (0 : Int32))]) rfl) ?_
    show D (T5.setTop (mkF m 77 #[.val (.int p1), .val (.int p2), .val (.int p3), .val (.ref b1), .val (.ref b2), .val (.int (0 : Int32))] []))
    refine A (XS.iload X5.here hx rfl (hb hby at_77) rfl) ?_
    show D (T5.setTop (mkF m 79 #[.val (.int p1), .val (.int p2), .val (.int p3), .val (.ref b1), .val (.ref b2), .val (.int (0 : Int32))] [(.int (0 : Int32))]))
    refine A (XS.ifYes X5.here hx rfl (pc0 := 79) (pc' := 113) rfl (hb hby at_79) rfl ((if0 _ _).trans (teq (by decide : (0 : Int32) = (0 : Int32))).1) (by decide) (by decide)) ?_
    show D (T5.setTop (mkF m 113 #[.val (.int p1), .val (.int p2), .val (.int p3), .val (.ref b1), .val (.ref b2), .val (.int (0 : Int32))] []))
    refine A (XS.iconst X5.here hx rfl (hb hby at_113)) ?_
    show D (T5.setTop (mkF m 114 #[.val (.int p1), .val (.int p2), .val (.int p3), .val (.ref b1), .val (.ref b2), .val (.int (0 : Int32))] [(.int (0 : Int32))]))
    exfalso
    first | exact absurd (own_glue p1 _ _ _ _ (own_t1_0 p1 p2 p3) (own_t1_1 p1 p2 p3) (own_t1_2 p1 p2 p3) (own_t1_3 p1 p2 p3)) (by assumption) | exact absurd (own_glue p2 _ _ _ _ (own_t5_0 p1 p2 p3) (own_t5_1 p1 p2 p3) (own_t5_2 p1 p2 p3) (own_t5_3 p1 p2 p3)) (by assumption) | exact absurd (rfl : own_T p1 p2 p3 0 = (8 : Int32)) (by assumption) | exact absurd (by decide) (by assumption)
set_option maxRecDepth 65536 in
set_option maxHeartbeats 40000000 in
theorem comes_1 {Post : Tables → Env → Array Value → State → Outcome → State → Prop} (hpost : ∀ tb e args s v u, (limb_1_1.after args s (.returned v) u = true ∧ limb_1_2.after args s (.returned v) u = true ∧ True) → FrameEnd s (.returned v) u (Jvm.fieldLocs frame_1_writes args s ++ Jvm.arrayLocs frame_1_arrays args s ++ Jvm.staticLocs frame_1_statics s) 16 640 → Post tb e args s (.returned v) u) :
    ArmFor flags0 classFile x code maxLocals ret World_1 tables_1 room_1 Calls_1 rest_1 Pre_1 Post := by
  intro l hfl _ _ p e ha hc hk s m args below hf hA hF happ hP
  obtain ⟨hcalls, hrest, hpre⟩ := hP
  obtain ⟨-, -, -, hnamed, -, -, -, hat⟩ := (Spec.applies_iff hf).mp happ
  obtain ⟨hg, hn⟩ := and_e (Cond.before_iff.mp (show (Jvm.Cond.and given_1 narrow_1).before args s = true from hpre))
  obtain ⟨g0, g1⟩ := and_e hg
  obtain ⟨t1, g2⟩ := and_e g1
  obtain ⟨t2, g3⟩ := and_e g2
  obtain ⟨w0, w1, w2, rfl⟩ : ∃ w0 w1 w2 : Value, args = #[w0, w1, w2] := by
    have hs : args.size = 3 := by simpa [Cond.value, given_1] using g0
    obtain ⟨L⟩ := args
    match L, hs with
    | [w0, w1, w2], _ => exact ⟨w0, w1, w2, rfl⟩
  have hw := fun d (hd : d ∈ tables_1) => atoms_spec (ws := Jvm.Cond.code x code maxLocals ret :: tables_1) hat d (List.mem_cons_of_mem _ hd)
  obtain ⟨i0, q0⟩ := is_v t1
  obtain rfl : w0 = (.int i0) := Option.some.inj q0
  obtain ⟨i1, q1⟩ := is_v t2
  obtain rfl : w1 = (.int i1) := Option.some.inj q1
  obtain ⟨i2, q2⟩ := is_v g3
  obtain rfl : w2 = (.int i2) := Option.some.inj q2
  obtain ⟨n, o, h1, h2, h3, _, L, rfl, ⟨rfl, N⟩, hq⟩ := rm0 l s _ hw tables_1 i0 i1 i2 s.heap s.heap.size (Nat.le_refl _) p e ha hc hk s m _ below hf ((Spec.applies_iff_loose hf).mp happ).1 ⟨rfl, State.Warmed39.refl s, rfl⟩ trivial
  refine ⟨n, _, h1, h2, h3, hpost _ _ _ _ _ _ ⟨Cond.after_iff.mpr rfl, Cond.after_iff.mpr (eq_i res_at (Term.int_eval (1)) rfl), trivial⟩ ⟨hq.1, hq.2.1, (hq.2.2.sift fun y hy => Or.inr (N y hy)).mono (by decide) (by decide)⟩⟩
theorem main_1_1 : Claimed_1_1 := comes_1 fun _ _ _ _ _ _ h hF => ⟨h.1, hF⟩
theorem main_1_2 : Claimed_1_2 := comes_1 fun _ _ _ _ _ _ h hF => ⟨h.2.1, hF⟩
end Jvm.Pilot.@@N@@
namespace Jvm.Pilot.@@N@@
open Jvm Jvm.ClassFile Sem Op Lib Jvm.Free Jvm.Stand Jvm.Pilot.@@N@@.Jvm.D
/-! MADE BY PROGRAM (witnessworld.py) out of the Statement's table words and the real class files: 9 classes; the members and pool entries that the words name. The judged class is class 1, her method 2. -/
namespace start1
open Jvm.ClassFile
def u (s : String) : CpInfo := .utf8 (stringToUtf16 s)
/-- a pool by its gaps: so many unusable entries, then the entry; so many at the end -/
def gap : Nat → List CpInfo → List CpInfo
  | 0, r => r
  | n + 1, r => .unusable :: gap n r
def poolList (es : List (Nat × CpInfo)) (last : Nat) : List CpInfo := es.foldr (fun e r => gap e.1 (e.2 :: r)) (gap last [])
def pool (es : List (Nat × CpInfo)) (last : Nat) : Array CpInfo := ⟨poolList es last⟩
def fileOf (pool : Array CpInfo) (this : Nat) (attrs : Array Attribute := #[]) (ms : Array MethodInfo := #[]) (fl : Nat := 33) (sup : Nat := 0) (ifs : Array Nat := #[]) (fds : Array FieldInfo := #[]) : ClassFile where
  minorVersion := 0
  majorVersion := 65
  constantPool := pool
  accessFlags := fl
  thisClass := this
  superClass := sup
  interfaces := ifs
  fields := fds
  methods := ms
  attributes := attrs
def plain (name : String) (sup : Option ClassId) : Class where
  name := name
  kind := .ordinary
  loader := none
  accessFlags := 33
  super := sup
  interfaces := #[]
  cf := none
  fields := #[]
  methods := #[]
  instanceTypes := #[]
  staticTypes := #[]
  resolved := #[]
  callSites := []
  init := .initialized
  statics := none
  mirror := none

def pool0 : Array CpInfo := pool [(5, u "<init>"), (0, u "()V"), (1, .class_ 10), (1, u "java/lang/Object")] 113

def k0c0 : Code := { maxStack := 0, maxLocals := 1, code := object_method_1_code, exceptionTable := #[], attributes := #[] }
def k0m0 : Method := { name := "<init>", desc := "()V", sig := { parameters := [], returnType := none }, accessFlags := 1, code := some k0c0 }
/-- java/lang/Object -/
def k0 : Class := { plain "java/lang/Object" none with
  accessFlags := 33
  interfaces := #[]
  cf := some (fileOf pool0 8 #[] #[{ accessFlags := 1, nameIndex := 5, descriptorIndex := 6, attributes := #[] }] 33 0 #[] #[])
  fields := #[]
  methods := #[k0m0]
  instanceTypes := #[]
  staticTypes := #[]
  resolved := Array.replicate 124 none
  statics := none }

def pool1 : Array CpInfo := pool [(2, .class_ 4), (0, .nameAndType 5 6), (0, u "java/lang/Object"), (0, u "<init>"), (0, u "()V"), (0, .class_ 8), (0, u "quoth/store/Record"), (0, .methodref 7 3), (0, .methodref 7 11), (0, .nameAndType 12 13), (0, u "triple"), (0, u "(III)V"), (0, .methodref 7 15), (0, .nameAndType 16 17), (0, u "bytes"), (0, u "()[B"), (0, .methodref 7 19), (0, .nameAndType 20 21), (0, u "length"), (0, u "()I"), (0, .methodref 23 24), (0, .class_ 25), (0, .nameAndType 26 27), (0, u "quoth/store/RecordIdPinLaw"), (0, u "le"), (0, u "([BII)Z"), (0, .methodref 7 29), (0, .nameAndType 30 31), (0, u "id"), (0, u "(I)I"), (3, u "law"), (0, u "(III)Z")] 4

def k1m0 : Method := { name := "<init>", desc := "()V", sig := { parameters := [], returnType := none }, accessFlags := 1, code := none }
def k1c1 : Code := { maxStack := 3, maxLocals := 3, code := method_2_code, exceptionTable := #[], attributes := #[] }
def k1m1 : Method := { name := "le", desc := "([BII)Z", sig := { parameters := [(.array .byte), .int, .int], returnType := some .boolean }, accessFlags := 10, code := some k1c1 }
def k1c2 : Code := { maxStack := 4, maxLocals := 6, code := code, exceptionTable := #[], attributes := #[] }
def k1m2 : Method := { name := "law", desc := "(III)Z", sig := { parameters := [.int, .int, .int], returnType := some .boolean }, accessFlags := 9, code := some k1c2 }
/-- quoth/store/RecordIdPinLaw -/
def k1 : Class := { plain "quoth/store/RecordIdPinLaw" (some 0) with
  accessFlags := 49
  interfaces := #[]
  cf := some (fileOf pool1 23 #[] #[{ accessFlags := 1, nameIndex := 5, descriptorIndex := 6, attributes := #[] }, { accessFlags := 10, nameIndex := 26, descriptorIndex := 27, attributes := #[] }, { accessFlags := 9, nameIndex := 35, descriptorIndex := 36, attributes := #[] }] 49 2 #[] #[])
  fields := #[]
  methods := #[k1m0, k1m1, k1m2]
  instanceTypes := #[]
  staticTypes := #[]
  resolved := Array.replicate 41 none
  statics := none }

def pool2 : Array CpInfo := pool [(1, .methodref 2 3), (0, .class_ 4), (0, .nameAndType 5 6), (0, u "java/lang/Object"), (0, u "<init>"), (0, u "()V"), (0, .fieldref 8 9), (0, .class_ 10), (0, .nameAndType 11 12), (0, u "quoth/store/Record"), (0, u "bytes"), (0, u "[B"), (0, .fieldref 8 14), (0, .nameAndType 15 16), (0, u "length"), (0, u "I"), (12, .methodref 8 30), (0, .nameAndType 31 32), (0, u "start"), (0, u "(B)V"), (10, .methodref 8 44), (0, .nameAndType 45 46), (0, u "appendId"), (0, u "(I)V"), (15, .methodref 8 63), (0, .nameAndType 64 32), (0, u "append"), (26, u "()I"), (52, u "IRI"), (0, u "B"), (2, u "BLANK"), (1, u "STRING"), (1, u "LANG"), (1, u "LANG_LTR"), (1, u "LANG_RTL"), (1, u "TYPED"), (1, u "TRIPLE"), (3, u "()[B"), (7, u "triple"), (0, u "(III)V"), (0, u "id"), (0, u "(I)I")] 2

def k2c0 : Code := { maxStack := 2, maxLocals := 1, code := prog_64_method_1_code, exceptionTable := #[], attributes := #[] }
def k2m0 : Method := { name := "<init>", desc := "()V", sig := { parameters := [], returnType := none }, accessFlags := 0, code := some k2c0 }
def k2c1 : Code := { maxStack := 1, maxLocals := 1, code := prog_64_method_2_code, exceptionTable := #[], attributes := #[] }
def k2m1 : Method := { name := "bytes", desc := "()[B", sig := { parameters := [], returnType := some (.array .byte) }, accessFlags := 0, code := some k2c1 }
def k2c2 : Code := { maxStack := 1, maxLocals := 1, code := prog_64_method_3_code, exceptionTable := #[], attributes := #[] }
def k2m2 : Method := { name := "length", desc := "()I", sig := { parameters := [], returnType := some .int }, accessFlags := 0, code := some k2c2 }
def k2c3 : Code := { maxStack := 2, maxLocals := 4, code := prog_64_method_10_code, exceptionTable := #[], attributes := #[] }
def k2m3 : Method := { name := "triple", desc := "(III)V", sig := { parameters := [.int, .int, .int], returnType := none }, accessFlags := 0, code := some k2c3 }
def k2c4 : Code := { maxStack := 4, maxLocals := 3, code := prog_64_method_13_code, exceptionTable := #[], attributes := #[] }
def k2m4 : Method := { name := "id", desc := "(I)I", sig := { parameters := [.int], returnType := some .int }, accessFlags := 0, code := some k2c4 }
def k2c5 : Code := { maxStack := 2, maxLocals := 2, code := prog_64_method_17_code, exceptionTable := #[], attributes := #[] }
def k2m5 : Method := { name := "start", desc := "(B)V", sig := { parameters := [.byte], returnType := none }, accessFlags := 2, code := some k2c5 }
def k2c6 : Code := { maxStack := 5, maxLocals := 2, code := prog_64_method_18_code, exceptionTable := #[], attributes := #[] }
def k2m6 : Method := { name := "append", desc := "(B)V", sig := { parameters := [.byte], returnType := none }, accessFlags := 2, code := some k2c6 }
def k2c7 : Code := { maxStack := 3, maxLocals := 3, code := prog_64_method_19_code, exceptionTable := #[], attributes := #[] }
def k2m7 : Method := { name := "appendId", desc := "(I)V", sig := { parameters := [.int], returnType := none }, accessFlags := 2, code := some k2c7 }
/-- quoth/store/Record -/
def k2 : Class := { plain "quoth/store/Record" (some 0) with
  accessFlags := 48
  interfaces := #[]
  cf := some (fileOf pool2 8 #[] #[{ accessFlags := 0, nameIndex := 5, descriptorIndex := 6, attributes := #[] }, { accessFlags := 0, nameIndex := 11, descriptorIndex := 164, attributes := #[] }, { accessFlags := 0, nameIndex := 15, descriptorIndex := 91, attributes := #[] }, { accessFlags := 0, nameIndex := 172, descriptorIndex := 173, attributes := #[] }, { accessFlags := 0, nameIndex := 174, descriptorIndex := 175, attributes := #[] }, { accessFlags := 2, nameIndex := 31, descriptorIndex := 32, attributes := #[] }, { accessFlags := 2, nameIndex := 64, descriptorIndex := 32, attributes := #[] }, { accessFlags := 2, nameIndex := 45, descriptorIndex := 46, attributes := #[] }] 48 2 #[] #[{ accessFlags := 24, nameIndex := 144, descriptorIndex := 145, attributes := #[] }, { accessFlags := 24, nameIndex := 148, descriptorIndex := 145, attributes := #[] }, { accessFlags := 24, nameIndex := 150, descriptorIndex := 145, attributes := #[] }, { accessFlags := 24, nameIndex := 152, descriptorIndex := 145, attributes := #[] }, { accessFlags := 24, nameIndex := 154, descriptorIndex := 145, attributes := #[] }, { accessFlags := 24, nameIndex := 156, descriptorIndex := 145, attributes := #[] }, { accessFlags := 24, nameIndex := 158, descriptorIndex := 145, attributes := #[] }, { accessFlags := 24, nameIndex := 160, descriptorIndex := 145, attributes := #[] }, { accessFlags := 2, nameIndex := 11, descriptorIndex := 12, attributes := #[] }, { accessFlags := 2, nameIndex := 15, descriptorIndex := 16, attributes := #[] }])
  fields := #[{ name := "IRI", type := .byte, accessFlags := 24, slot := 0, constantValue := 0 }, { name := "BLANK", type := .byte, accessFlags := 24, slot := 1, constantValue := 0 }, { name := "STRING", type := .byte, accessFlags := 24, slot := 2, constantValue := 0 }, { name := "LANG", type := .byte, accessFlags := 24, slot := 3, constantValue := 0 }, { name := "LANG_LTR", type := .byte, accessFlags := 24, slot := 4, constantValue := 0 }, { name := "LANG_RTL", type := .byte, accessFlags := 24, slot := 5, constantValue := 0 }, { name := "TYPED", type := .byte, accessFlags := 24, slot := 6, constantValue := 0 }, { name := "TRIPLE", type := .byte, accessFlags := 24, slot := 7, constantValue := 0 }, { name := "bytes", type := (.array .byte), accessFlags := 2, slot := 0, constantValue := 0 }, { name := "length", type := .int, accessFlags := 2, slot := 1, constantValue := 0 }]
  methods := #[k2m0, k2m1, k2m2, k2m3, k2m4, k2m5, k2m6, k2m7]
  instanceTypes := #[(.array .byte), .int]
  staticTypes := #[.byte, .byte, .byte, .byte, .byte, .byte, .byte, .byte]
  resolved := Array.replicate 178 none
  statics := none }

def pool3 : Array CpInfo := pool [(1, u "java/lang/Cloneable"), (0, .class_ 1), (0, u "java/lang/Object"), (0, .class_ 3)] 3

/-- java/lang/Cloneable -/
def k3 : Class := { plain "java/lang/Cloneable" (some 0) with
  accessFlags := 1537
  interfaces := #[]
  cf := some (fileOf pool3 2 #[] #[] 1537 4 #[] #[])
  fields := #[]
  methods := #[]
  instanceTypes := #[]
  staticTypes := #[]
  resolved := Array.replicate 8 none
  statics := none }

def pool4 : Array CpInfo := pool [(1, u "java/io/Serializable"), (0, .class_ 1), (0, u "java/lang/Object"), (0, .class_ 3)] 3

/-- java/io/Serializable -/
def k4 : Class := { plain "java/io/Serializable" (some 0) with
  accessFlags := 1537
  interfaces := #[]
  cf := some (fileOf pool4 2 #[] #[] 1537 4 #[] #[])
  fields := #[]
  methods := #[]
  instanceTypes := #[]
  staticTypes := #[]
  resolved := Array.replicate 8 none
  statics := none }

/-- the primitive byte -/
def k5 : Class := { plain "byte" none with kind := .primitive 'B', accessFlags := 0x411 }
/-- [B -/
def k6 : Class := { plain "[B" (some 0) with kind := .array 5 .byte, interfaces := #[3, 4], accessFlags := 1041 }

/-- the primitive int -/
def k7 : Class := { plain "int" none with kind := .primitive 'I', accessFlags := 0x411 }
/-- [I -/
def k8 : Class := { plain "[I" (some 0) with kind := .array 7 .int, interfaces := #[3, 4], accessFlags := 1041 }

def heap : Heap := #[]
def classes : Array Class := #[k0, k1, k2, k3, k4, k5, k6, k7, k8]
def interned : List (Array UInt16 × Addr) := []
def slotsUsed : Nat := 0
def theMethod : MethodId := ⟨1, 2⟩
def args0 : Array Value := #[.int 3, .int 4, .int 5]
def aboutOver (below : List Frame) : State where
  vm := { classes := classes, interned := interned.toArray }
  heap := heap
  slotsUsed := slotsUsed
  threads := #[{ frames := .invoking theMethod args0 :: below }]
def below0 : List Frame := [.native { method := ⟨0, 0⟩, args := #[] }]
def about1 : State := aboutOver below0
def p0 : Program := .bare "" "" ""
def e0 : Env := launch0.env 0 0 0
theorem w_frames : about1.frames = Frame.invoking theMethod args0 :: below0 := rfl
set_option maxRecDepth 65536 in
theorem w_args : argsFit about1.vm theMethod args0 = true := by decide +kernel
set_option maxRecDepth 65536 in
theorem w_heap : heapFits about1 = true := by decide +kernel
set_option maxRecDepth 65536 in
theorem w_runnable : about1.curStatus? = some .runnable := by decide +kernel
set_option maxRecDepth 65536 in
theorem w_alone : about1.alone = true := by decide +kernel
set_option maxRecDepth 65536 in
theorem w_named : about1.methodNamed? x = some theMethod := by decide +kernel
set_option maxRecDepth 65536 in
theorem w_hears : about1.hears theMethod below0 = true := by decide +kernel
set_option maxRecDepth 65536 in
theorem w_ripe : about1.ripe theMethod args0 below0 = true := by decide +kernel
theorem w_running : about1.status = .running := rfl
set_option maxRecDepth 65536 in
theorem w_room : about1.hasRoom e0.platform room_1 = true :=
  launch0.hasRoom_least _ room_1 (by decide +kernel) (by decide +kernel) (by decide +kernel) (by decide +kernel) (by decide +kernel) (by decide +kernel)
theorem allAtoms_all (ts : List Jvm.Cond) (a : Array Jvm.Value) (st : Jvm.State) : (allAtoms ts).before a st = ts.all (fun c => c.before a st) := by
  induction ts with
  | nil => rfl
  | cons c t ih =>
    show (Jvm.Cond.and c (allAtoms t)).before a st = _
    rw [Jvm.Cond.before_and, ih, List.all_cons]
def words1 : List Jvm.Cond := Jvm.Cond.code x code maxLocals ret :: tables_1
/-- a 'code' word, met by the world's own term for the bytes: nothing is compared byte by byte -/
theorem code_word {y : MethodName} {bytes : ByteArray} {mx : Nat} {rt : Option FieldType} {a : Array Value} {s : State} {m : MethodId} {meth : Method} {c : Code} (h1 : s.methodNamed? y = some m) (h2 : s.vm.method? m = some meth) (h3 : meth.code = some c) (h4 : c.code = bytes)
    (h5 : (c.maxLocals == mx && c.exceptionTable.isEmpty && decide (c.maxStack ≤ mostOperands) && decide (meth.sig.returnType = rt) && !meth.locks && decide (parseMethodDescriptor y.desc = some meth.sig)) = true) : (Jvm.Cond.code y bytes mx rt).before a s = true := by
  simp only [Bool.and_eq_true, beq_iff_eq, Bool.not_eq_true', decide_eq_true_eq] at h5
  obtain ⟨⟨⟨⟨⟨g1, g2⟩, g3⟩, g4⟩, g5⟩, g6⟩ := h5
  simp [Cond.before, Cond.holds, Cond.value, h1, h2, h3, h4, g1, g2, g3, g4, g5, g6]
def isCode : Jvm.Cond → Bool
  | .code _ _ _ _ => true
  | _ => false
theorem all_split {L : List Jvm.Cond} {P : Jvm.Cond → Bool} (h1 : L.all (fun c => isCode c || P c) = true) (h2 : ∀ c ∈ L.filter isCode, P c = true) : L.all P = true := by
  refine List.all_eq_true.mpr fun c hc => ?_
  have h := List.all_eq_true.mp h1 c hc
  rcases Bool.eq_false_or_eq_true (isCode c) with hi | hi
  · exact h2 c (List.mem_filter.mpr ⟨hc, hi⟩)
  · simpa [hi] using h
set_option maxRecDepth 65536 in
theorem w_c0 : (Jvm.Cond.code x code maxLocals ret).before args0 about1 = true := code_word (m := ⟨1, 2⟩) (meth := k1m2) (c := k1c2) (by decide +kernel) rfl rfl rfl (by decide +kernel)
set_option maxRecDepth 65536 in
theorem w_c1 : (Jvm.Cond.code ({ cls := "quoth/store/Record", name := "<init>", desc := "()V" } : Jvm.MethodName) prog_64_method_1_code (1 : Nat) (Option.none : Option Jvm.ClassFile.FieldType)).before args0 about1 = true := code_word (m := ⟨2, 0⟩) (meth := k2m0) (c := k2c0) (by decide +kernel) rfl rfl rfl (by decide +kernel)
set_option maxRecDepth 65536 in
theorem w_c2 : (Jvm.Cond.code ({ cls := "java/lang/Object", name := "<init>", desc := "()V" } : Jvm.MethodName) object_method_1_code (1 : Nat) (Option.none : Option Jvm.ClassFile.FieldType)).before args0 about1 = true := code_word (m := ⟨0, 0⟩) (meth := k0m0) (c := k0c0) (by decide +kernel) rfl rfl rfl (by decide +kernel)
set_option maxRecDepth 65536 in
theorem w_c3 : (Jvm.Cond.code ({ cls := "quoth/store/Record", name := "triple", desc := "(III)V" } : Jvm.MethodName) prog_64_method_10_code (4 : Nat) (Option.none : Option Jvm.ClassFile.FieldType)).before args0 about1 = true := code_word (m := ⟨2, 3⟩) (meth := k2m3) (c := k2c3) (by decide +kernel) rfl rfl rfl (by decide +kernel)
set_option maxRecDepth 65536 in
theorem w_c4 : (Jvm.Cond.code ({ cls := "quoth/store/Record", name := "start", desc := "(B)V" } : Jvm.MethodName) prog_64_method_17_code (2 : Nat) (Option.none : Option Jvm.ClassFile.FieldType)).before args0 about1 = true := code_word (m := ⟨2, 5⟩) (meth := k2m5) (c := k2c5) (by decide +kernel) rfl rfl rfl (by decide +kernel)
set_option maxRecDepth 65536 in
theorem w_c5 : (Jvm.Cond.code ({ cls := "quoth/store/Record", name := "append", desc := "(B)V" } : Jvm.MethodName) prog_64_method_18_code (2 : Nat) (Option.none : Option Jvm.ClassFile.FieldType)).before args0 about1 = true := code_word (m := ⟨2, 6⟩) (meth := k2m6) (c := k2c6) (by decide +kernel) rfl rfl rfl (by decide +kernel)
set_option maxRecDepth 65536 in
theorem w_c6 : (Jvm.Cond.code ({ cls := "quoth/store/Record", name := "appendId", desc := "(I)V" } : Jvm.MethodName) prog_64_method_19_code (3 : Nat) (Option.none : Option Jvm.ClassFile.FieldType)).before args0 about1 = true := code_word (m := ⟨2, 7⟩) (meth := k2m7) (c := k2c7) (by decide +kernel) rfl rfl rfl (by decide +kernel)
set_option maxRecDepth 65536 in
theorem w_c7 : (Jvm.Cond.code ({ cls := "quoth/store/Record", name := "bytes", desc := "()[B" } : Jvm.MethodName) prog_64_method_2_code (1 : Nat) (Option.some (Jvm.ClassFile.FieldType.array Jvm.ClassFile.FieldType.byte))).before args0 about1 = true := code_word (m := ⟨2, 1⟩) (meth := k2m1) (c := k2c1) (by decide +kernel) rfl rfl rfl (by decide +kernel)
set_option maxRecDepth 65536 in
theorem w_c8 : (Jvm.Cond.code ({ cls := "quoth/store/Record", name := "length", desc := "()I" } : Jvm.MethodName) prog_64_method_3_code (1 : Nat) (Option.some Jvm.ClassFile.FieldType.int)).before args0 about1 = true := code_word (m := ⟨2, 2⟩) (meth := k2m2) (c := k2c2) (by decide +kernel) rfl rfl rfl (by decide +kernel)
set_option maxRecDepth 65536 in
theorem w_c9 : (Jvm.Cond.code ({ cls := "quoth/store/RecordIdPinLaw", name := "le", desc := "([BII)Z" } : Jvm.MethodName) method_2_code (3 : Nat) (Option.some Jvm.ClassFile.FieldType.boolean)).before args0 about1 = true := code_word (m := ⟨1, 1⟩) (meth := k1m1) (c := k1c1) (by decide +kernel) rfl rfl rfl (by decide +kernel)
set_option maxRecDepth 65536 in
theorem w_c10 : (Jvm.Cond.code ({ cls := "quoth/store/Record", name := "id", desc := "(I)I" } : Jvm.MethodName) prog_64_method_13_code (3 : Nat) (Option.some Jvm.ClassFile.FieldType.int)).before args0 about1 = true := code_word (m := ⟨2, 4⟩) (meth := k2m4) (c := k2c4) (by decide +kernel) rfl rfl rfl (by decide +kernel)
def codes1 : List Jvm.Cond := [Jvm.Cond.code x code maxLocals ret, Jvm.Cond.code ({ cls := "quoth/store/Record", name := "<init>", desc := "()V" } : Jvm.MethodName) prog_64_method_1_code (1 : Nat) (Option.none : Option Jvm.ClassFile.FieldType), Jvm.Cond.code ({ cls := "java/lang/Object", name := "<init>", desc := "()V" } : Jvm.MethodName) object_method_1_code (1 : Nat) (Option.none : Option Jvm.ClassFile.FieldType), Jvm.Cond.code ({ cls := "quoth/store/Record", name := "triple", desc := "(III)V" } : Jvm.MethodName) prog_64_method_10_code (4 : Nat) (Option.none : Option Jvm.ClassFile.FieldType), Jvm.Cond.code ({ cls := "quoth/store/Record", name := "start", desc := "(B)V" } : Jvm.MethodName) prog_64_method_17_code (2 : Nat) (Option.none : Option Jvm.ClassFile.FieldType), Jvm.Cond.code ({ cls := "quoth/store/Record", name := "append", desc := "(B)V" } : Jvm.MethodName) prog_64_method_18_code (2 : Nat) (Option.none : Option Jvm.ClassFile.FieldType), Jvm.Cond.code ({ cls := "quoth/store/Record", name := "appendId", desc := "(I)V" } : Jvm.MethodName) prog_64_method_19_code (3 : Nat) (Option.none : Option Jvm.ClassFile.FieldType), Jvm.Cond.code ({ cls := "quoth/store/Record", name := "bytes", desc := "()[B" } : Jvm.MethodName) prog_64_method_2_code (1 : Nat) (Option.some (Jvm.ClassFile.FieldType.array Jvm.ClassFile.FieldType.byte)), Jvm.Cond.code ({ cls := "quoth/store/Record", name := "length", desc := "()I" } : Jvm.MethodName) prog_64_method_3_code (1 : Nat) (Option.some Jvm.ClassFile.FieldType.int), Jvm.Cond.code ({ cls := "quoth/store/RecordIdPinLaw", name := "le", desc := "([BII)Z" } : Jvm.MethodName) method_2_code (3 : Nat) (Option.some Jvm.ClassFile.FieldType.boolean), Jvm.Cond.code ({ cls := "quoth/store/Record", name := "id", desc := "(I)I" } : Jvm.MethodName) prog_64_method_13_code (3 : Nat) (Option.some Jvm.ClassFile.FieldType.int)]
set_option maxRecDepth 65536 in
theorem codes_eq : words1.filter isCode = codes1 := rfl
theorem w_codes : ∀ c ∈ words1.filter isCode, c.before args0 about1 = true := by
  rw [codes_eq]
  intro c hc
  simp only [codes1, List.mem_cons, List.not_mem_nil, or_false] at hc
  rcases hc with rfl | rfl | rfl | rfl | rfl | rfl | rfl | rfl | rfl | rfl | rfl
  · exact w_c0
  · exact w_c1
  · exact w_c2
  · exact w_c3
  · exact w_c4
  · exact w_c5
  · exact w_c6
  · exact w_c7
  · exact w_c8
  · exact w_c9
  · exact w_c10
set_option maxRecDepth 65536 in
theorem w_t1 : (words1.take 24).all (fun c => isCode c || c.before args0 about1) = true := by decide +kernel
set_option maxRecDepth 65536 in
theorem w_t2 : ((words1.drop 24).take 24).all (fun c => isCode c || c.before args0 about1) = true := by decide +kernel
set_option maxRecDepth 65536 in
theorem w_t3 : ((words1.drop 24).drop 24).all (fun c => isCode c || c.before args0 about1) = true := by decide +kernel
theorem w_tables : (allAtoms (Jvm.Cond.code x code maxLocals ret :: tables_1)).before args0 about1 = true := by
  rw [allAtoms_all]
  show words1.all (fun c => c.before args0 about1) = true
  refine all_split ?_ w_codes
  rw [← List.take_append_drop 24 words1, List.all_append, w_t1, ← List.take_append_drop 24 (words1.drop 24), List.all_append, w_t2, w_t3]
  rfl
set_option maxRecDepth 65536 in
theorem w_case : (Jvm.Cond.and given_1 narrow_1).before args0 about1 = true := by decide +kernel
theorem w_applies : (headSpec (Jvm.Cond.code x code maxLocals ret :: tables_1) room_1).applies x e0.platform about1 = true :=
  (Spec.applies_iff w_frames).mpr ⟨w_running, w_runnable, w_alone, w_named, w_hears, w_ripe, w_room, w_tables⟩
theorem atStart : AtStart classFile x code maxLocals ret World_1 tables_1 room_1 Calls_1 rest_1 Pre_1 launch0 p0 e0 about1 theMethod args0 below0 :=
  ⟨lists_1, trivial, launch0.admits_env _ _ _, launch0.least_env, fairChoices_fair.cas, fairChoices_fair.clock, w_frames, w_args, w_heap, w_applies, trivial, trivial, w_case⟩
end start1
theorem witness_1 : WitnessClaimed_1 := ⟨start1.p0, start1.e0, start1.about1, start1.theMethod, start1.args0, start1.below0, start1.atStart⟩
end Jvm.Pilot.@@N@@
