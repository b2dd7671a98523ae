import JvmDerived
import JvmDerived.Pilot.@@N@@Statement
import JvmDerived.Pilot.@@N@@Code
set_option linter.unusedVariables false
set_option linter.unusedSimpArgs false
namespace Jvm.JW
open Sem ClassFile Op Lib Jvm.Stand Jvm.Free Jvm.LawKit Jvm.RoadKit
/-! The walk in continuation form: D holds of a machine state if the run from it ends as the contract says. -/
def Dn (p : Program) (e : Env) (below : List Frame) (s : State) (Q : Option Value → Heap → List Loc → Prop) (k n : Nat) (S : State) : Prop :=
  ∃ s₂ o, Steps p.tables e below S s₂ ∧ s₂.status = .running ∧ Ended s₂ below o ∧ ∃ v L, o = .returned v ∧ Q v s₂.heap L ∧ FrameEnd s o s₂ L k n
def Adv (p : Program) (e : Env) (below : List Frame) (D : State → Prop) : Prop :=
  ∀ {S S' : State}, (∀ {t : State}, Steps p.tables e below S' t → Steps p.tables e below S t) → D S' → D S
theorem Adv.dn {p : Program} {e : Env} {below : List Frame} {s : State} {Q : Option Value → Heap → List Loc → Prop} {k n : Nat} : Adv p e below (Dn p e below s Q k n) := by
  intro S S' h d
  obtain ⟨s2, o, h1, h2⟩ := d
  exact ⟨s2, o, h h1, h2⟩
theorem Adv.tr {p : Program} {e : Env} {below : List Frame} {D : State → Prop} (A : Adv p e below D) {S S' : State} (h : Steps p.tables e below S S') (d : D S') : D S := A (fun k => h.trans k) d
abbrev JMet (l : Launch) (Z : State) (y : MethodName) (bytes : ByteArray) (maxL : Nat) (ret : Option FieldType) (ws : List Cond) (rm : Room) (as' : Array Value) (h0 : Heap) (Q : Option Value → Heap → List Loc → Prop) : Prop :=
  MetFree l y (head1 (Cond.code y bytes maxL ret :: ws) rm) (fun a U => a = as' ∧ Z.Warmed39 U.vm ∧ U.heap = h0) (fun _ _ _ _ _ => True) (fun _ U o U' => ∃ v L, o = .returned v ∧ Q v U'.heap L ∧ FrameEnd U o U' L rm.cells rm.slots)
/-- a body that returns r and leaves the heap as it was -/
def QP (r : Value) (h0 : Heap) (n0 : Nat) (v : Option Value) (h : Heap) (L : List Loc) : Prop := v = some r ∧ Fr n0 L ∧ h = h0
/-- the law: it returns 1; nothing that stood at the start is written -/
def QL (n0 : Nat) (v : Option Value) (h : Heap) (L : List Loc) : Prop := v = some (.int 1) ∧ Fr n0 L
section Kit
variable {p : Program} {l : Launch} {e : Env} {R : Room} {s : State} {m : MethodId} {args : Array Value} {below : List Frame} {meth : Method} {c : Code} {T : State} {locs : List Loc} {cells slots : Nat} {Z : State} {a0 : Array Value} {h : Heap} {D : State → Prop}
theorem ret (X : Stand p l e R s m args below meth c T locs cells slots) (hlk : meth.locks = false) {Q : Option Value → Heap → List Loc → Prop} {k n : Nat} {S : State} {v : Option Value} (hv : meth.sig.returnType = none → v = none)
    (hst : ∀ fs, (∀ (f : JFrame) (acts : List Action), f.method = m → f.locked = none → f.entered = [] → (doReturn e (T.setTop f) acts v).1 = T.setFrames fs) → Steps p.tables e below S (T.setFrames fs))
    (hq : Q v T.heap locs) (hk : cells ≤ k) (hn : slots ≤ n) : Dn p e below s Q k n S := by
  obtain ⟨fs, hr, hrun, hended, hW, hsame⟩ := X.leave (v := v) hv hlk
  exact ⟨_, _, hst fs hr, hrun, hended, _, _, rfl, hq, ⟨_, rfl⟩, hW, hsame.mono hk hn⟩
theorem body {y : MethodName} {bytes : ByteArray} {maxL : Nat} {rt : Option FieldType} {ws : List Cond} {rm : Room} {as' : Array Value} {h0 : Heap} {Q : Option Value → Heap → List Loc → Prop} (Ls : Array Slot) (hpl : plainFor y = true) (hef : ∀ m, entryFrame m as' maxL = mkF m 0 Ls [])
    (bd : ∀ (p : Program) (e : Env) (s : State) (m : MethodId) (below : List Frame) (meth : Method) (c : Code) (T0 : State) (D : State → Prop), Adv p e below D → (∀ S, Dn p e below s Q rm.cells rm.slots S → D S) → Stand p l e rm s m as' below meth c T0 [] 0 0 → p.tables.exec = Jvm.exec → Z.Warmed39 s.vm → c.code = bytes → c.maxLocals = maxL → s.vm.findClass y.cls = some m.cls → meth.name = y.name → meth.sig.returnType = rt → meth.locks = false → T0.heap = h0 → D (T0.setTop (mkF m 0 Ls []))) :
    JMet l Z y bytes maxL rt ws rm as' h0 Q := by
  refine MetFree.of_bodySF hpl hisR ?_
  intro p e s m args below meth c s₁ Bd hml hP hK
  obtain ⟨rfl, hZ, hh⟩ := hP
  have q := bd p e s m below meth c s₁ (Dn p e below s Q rm.cells rm.slots) Adv.dn (fun _ d => d) (Stand.of_body Bd) Bd.exec hZ Bd.bytes hml (findClass_of_methodNamed Bd.named) (name_of_methodNamed Bd.named Bd.method).1 Bd.returns Bd.notSynchronized (by rw [← hh, Bd.state]; rfl)
  rw [← hef m] at q
  exact q
theorem Adv.callS (A : Adv p e below D) (X : Stand p l e R s m args below meth c T locs cells slots) (hx : p.tables.exec = Jvm.exec) (hZ : Z.Warmed39 s.vm) {own : String} {index : Nat} {y : MethodName} {bytes : ByteArray} {maxL : Nat} {rt : Option FieldType} {rm : Room} {as' : Array Value} {Q : Option Value → Heap → List Loc → Prop}
    (hown : s.vm.findClass own = some m.cls) (w1 : (Cond.methodLink own index y).before a0 Z = true) (w2 : (Cond.static y).before a0 Z = true) (w3 : (Cond.initialized y.cls).before a0 Z = true) (w4 : (Cond.code y bytes maxL rt).before a0 Z = true) (eT : T.heap = h)
    (hM : JMet l Z y bytes maxL rt [] rm as' h Q) (W : Nat) {g : JFrame} (hg : g.method = m) (hsz : g.locals.size = c.maxLocals) (argsL rest : List Value) (has : as' = argsL.toArray)
    (hlen : ∀ sig, parseMethodDescriptor y.desc = some sig → argsL.length = sig.parameters.length) (hstack : g.stack = argsL.reverse ++ rest) (hW : 2 * g.monitorRoom + (rest.map fun v => v.category).sum ≤ W)
    (hd : decode c.code g.pc = .ok (.invokestatic index, 3)) (hy : y.cls ≠ "java/lang/invoke/MethodHandle" ∧ y.cls ≠ "java/lang/invoke/VarHandle") (hf : rm.frames + 1 ≤ R.frames) (hl : W + (maxL + 11) + rm.locals ≤ R.locals) (hc : cells + rm.cells ≤ R.cells) (hs : slots + rm.slots ≤ R.slots)
    (k : ∀ (T' : State) (L' : List Loc) (v : Option Value), Stand p l e R s m args below meth c T' (locs ++ L') (cells + rm.cells) (slots + rm.slots) → Q v T'.heap L' → D (T'.setTop { g with pc := g.pc + 3, stack := v.toList ++ rest })) : D (T.setTop g) := by
  subst has
  obtain ⟨v, _, ⟨T', L, k', n'⟩, -, X', ⟨Lc, hQ, l', y', z'⟩, st⟩ := Jvm.LawKit.callS X hx (y := y) hown (mvT hZ w1) (mvT hZ w2) (mvT hZ w3) (mvT hZ w4) hy (backOf (W := W) hM hZ w4 w3 hf hl) (g := g) hg hsz (argsL := argsL) (rest := rest) hlen hstack hW hd (fun _ _ => ⟨rfl, eT, hc, hs⟩)
  dsimp only [Pt.U, Pt.locs, Pt.cells, Pt.slots] at X' l' y' z' st hQ
  subst l' y' z'
  exact A (fun q => st _ q) (k T' Lc v X' hQ)
theorem Adv.callI (A : Adv p e below D) (X : Stand p l e R s m args below meth c T locs cells slots) (hx : p.tables.exec = Jvm.exec) (hZ : Z.Warmed39 s.vm) {own : String} {index : Nat} {y : MethodName} {bytes : ByteArray} {maxL : Nat} {rm : Room} {as' : Array Value} {Q : Option Value → Heap → List Loc → Prop}
    (hown : s.vm.findClass own = some m.cls) (hi : y.name = "<init>") (w1 : (Cond.methodLink own index y).before a0 Z = true) (w2 : (Cond.instanceMethod y).before a0 Z = true) (w3 : (Cond.initialized y.cls).before a0 Z = true) (w4 : (Cond.code y bytes maxL none).before a0 Z = true) (eT : T.heap = h)
    (hM : JMet l Z y bytes maxL none [] rm as' h Q) (W : Nat) {g : JFrame} (hg : g.method = m) (hsz : g.locals.size = c.maxLocals) (a : Addr) (argsL rest : List Value) (has : as' = (.ref a :: argsL).toArray)
    (hlen : ∀ sig, parseMethodDescriptor y.desc = some sig → argsL.length = sig.parameters.length) (hstack : g.stack = argsL.reverse ++ .ref a :: rest) (hW : 2 * g.monitorRoom + (rest.map fun v => v.category).sum ≤ W)
    (hd : decode c.code g.pc = .ok (.invokespecial index, 3)) (hy : y.cls ≠ "java/lang/invoke/MethodHandle" ∧ y.cls ≠ "java/lang/invoke/VarHandle") (hf : rm.frames + 1 ≤ R.frames) (hl : W + (maxL + 11) + rm.locals ≤ R.locals) (hc : cells + rm.cells ≤ R.cells) (hs : slots + rm.slots ≤ R.slots)
    (k : ∀ (T' : State) (L' : List Loc) (v : Option Value), Stand p l e R s m args below meth c T' (locs ++ L') (cells + rm.cells) (slots + rm.slots) → Q v T'.heap L' → D (T'.setTop { g with pc := g.pc + 3, stack := v.toList ++ rest })) : D (T.setTop g) := by
  subst has
  obtain ⟨v, _, ⟨T', L, k', n'⟩, -, X', ⟨Lc, hQ, l', y', z'⟩, st⟩ := X.specialBack hx (y := y) hi hown (mvT hZ w1) (mvT hZ w2) (mvT hZ w4) hy (backOf (W := W) hM hZ w4 w3 hf hl) (g := g) hg hsz (Steps.refl _) (a := a) (argsL := argsL) (rest := rest) hlen hstack hW hd (fun _ _ => ⟨rfl, eT, hc, hs⟩)
  dsimp only [Pt.U, Pt.locs, Pt.cells, Pt.slots] at X' l' y' z' st hQ
  subst l' y' z'
  exact A.tr st (k T' Lc v X' hQ)
theorem Adv.callV (A : Adv p e below D) (X : Stand p l e R s m args below meth c T locs cells slots) (hx : p.tables.exec = Jvm.exec) (hZ : Z.Warmed39 s.vm) {own C : String} {index : Nat} {y z : MethodName} {bytes : ByteArray} {maxL : Nat} {rt : Option FieldType} {rm : Room} {as' : Array Value} {Q : Option Value → Heap → List Loc → Prop} {a : Addr}
    (hown : s.vm.findClass own = some m.cls) (w1 : (Cond.methodLink own index y).before a0 Z = true) (w2 : (Cond.declares y).before a0 Z = true) (nf : NotFace s y) (w5 : (Cond.selects C y z).before a0 Z = true) (w6 : (Cond.instanceMethod z).before a0 Z = true) (w3 : (Cond.initialized z.cls).before a0 Z = true) (w4 : (Cond.code z bytes maxL rt).before a0 Z = true) (eT : T.heap = h) (E : Exa Z h a C)
    (hM : JMet l Z z bytes maxL rt [] rm as' h Q) (W : Nat) {g : JFrame} (hg : g.method = m) (hsz : g.locals.size = c.maxLocals) (argsL rest : List Value) (has : as' = (.ref a :: argsL).toArray)
    (hlen : ∀ sig, parseMethodDescriptor y.desc = some sig → argsL.length = sig.parameters.length) (hstack : g.stack = argsL.reverse ++ .ref a :: rest) (hW : 2 * g.monitorRoom + (rest.map fun v => v.category).sum ≤ W)
    (hd : decode c.code g.pc = .ok (.invokevirtual index, 3)) (hy : y.cls ≠ "java/lang/invoke/MethodHandle" ∧ y.cls ≠ "java/lang/invoke/VarHandle") (hf : rm.frames + 1 ≤ R.frames) (hl : W + (maxL + 11) + rm.locals ≤ R.locals) (hc : cells + rm.cells ≤ R.cells) (hs : slots + rm.slots ≤ R.slots)
    (k : ∀ (T' : State) (L' : List Loc) (v : Option Value), Stand p l e R s m args below meth c T' (locs ++ L') (cells + rm.cells) (slots + rm.slots) → Q v T'.heap L' → D (T'.setTop { g with pc := g.pc + 3, stack := v.toList ++ rest })) : D (T.setTop g) := by
  subst has
  obtain ⟨cq, kq, qa, qb, qc⟩ := isOf hZ eT E
  obtain ⟨v, _, ⟨T', L, k', n'⟩, -, X', ⟨Lc, hQ, l', y', z'⟩, st⟩ := X.virtualBack hx (y := y) (z := z) hown (mvT hZ w1) (mvT hZ w2) nf (mvT hZ w5) (mvT hZ w6) hy (backOf (W := W) hM hZ w4 w3 hf hl) qa qc (g := g) hg hsz (Steps.refl _) (argsL := argsL) (rest := rest) hlen hstack hW hd (fun _ _ => ⟨rfl, eT, hc, hs⟩)
  dsimp only [Pt.U, Pt.locs, Pt.cells, Pt.slots] at X' l' y' z' st hQ
  subst l' y' z'
  exact A.tr st (k T' Lc v X' hQ)
theorem Adv.callU (A : Adv p e below D) (X : Stand p l e R s m args below meth c T locs cells slots) (hx : p.tables.exec = Jvm.exec) (hZ : Z.Warmed39 s.vm) {own C owner : String} {index : Nat} {y z : MethodName} {bytes : ByteArray} {maxL : Nat} {rt : Option FieldType} {rm : Room} {as' : Array Value} {Q : Option Value → Heap → List Loc → Prop} {a : Addr}
    (hown : s.vm.findClass own = some m.cls) (w1 : (Cond.methodLink own index y).before a0 Z = true) (w7 : (Cond.sameMethod y.cls owner y.name y.desc).before a0 Z = true) (w2 : (Cond.declares ⟨owner, y.name, y.desc⟩).before a0 Z = true) (w5 : (Cond.selects C y z).before a0 Z = true) (w6 : (Cond.instanceMethod z).before a0 Z = true) (w3 : (Cond.initialized z.cls).before a0 Z = true) (w4 : (Cond.code z bytes maxL rt).before a0 Z = true) (eT : T.heap = h) (E : Exa Z h a C)
    (hM : JMet l Z z bytes maxL rt [] rm as' h Q) (W : Nat) {g : JFrame} (hg : g.method = m) (hsz : g.locals.size = c.maxLocals) (argsL rest : List Value) (has : as' = (.ref a :: argsL).toArray)
    (hlen : ∀ sig, parseMethodDescriptor y.desc = some sig → argsL.length = sig.parameters.length) (hstack : g.stack = argsL.reverse ++ .ref a :: rest) (hW : 2 * g.monitorRoom + (rest.map fun v => v.category).sum ≤ W)
    (hd : decode c.code g.pc = .ok (.invokevirtual index, 3)) (hy : owner ≠ "java/lang/invoke/MethodHandle" ∧ owner ≠ "java/lang/invoke/VarHandle") (hf : rm.frames + 1 ≤ R.frames) (hl : W + (maxL + 11) + rm.locals ≤ R.locals) (hc : cells + rm.cells ≤ R.cells) (hs : slots + rm.slots ≤ R.slots)
    (k : ∀ (T' : State) (L' : List Loc) (v : Option Value), Stand p l e R s m args below meth c T' (locs ++ L') (cells + rm.cells) (slots + rm.slots) → Q v T'.heap L' → D (T'.setTop { g with pc := g.pc + 3, stack := v.toList ++ rest })) : D (T.setTop g) := by
  subst has
  obtain ⟨cq, kq, qa, qb, qc⟩ := isOf hZ eT E
  obtain ⟨v, _, ⟨T', L, k', n'⟩, -, X', ⟨Lc, hQ, l', y', z'⟩, st⟩ := X.virtualBackUp hx (x := y) (y := z) (owner := owner) hown (mvT hZ w1) (mvT hZ w7) (mvT hZ w2) hy (mvT hZ w5) (mvT hZ w6) (backOf (W := W) hM hZ w4 w3 hf hl) qa qc (g := g) hg hsz (Steps.refl _) (argsL := argsL) (rest := rest) hlen hstack hW hd (fun _ _ => ⟨rfl, eT, hc, hs⟩)
  dsimp only [Pt.U, Pt.locs, Pt.cells, Pt.slots] at X' l' y' z' st hQ
  subst l' y' z'
  exact A.tr st (k T' Lc v X' hQ)
theorem Adv.callP (A : Adv p e below D) (X : Stand p l e R s m args below meth c T locs cells slots) (hx : p.tables.exec = Jvm.exec) (hZ : Z.Warmed39 s.vm) {own C : String} {index kn : Nat} {y : MethodName} {bytes : ByteArray} {maxL : Nat} {rt : Option FieldType} {rm : Room} {as' : Array Value} {Q : Option Value → Heap → List Loc → Prop} {a : Addr}
    (hown : s.vm.findClass own = some m.cls) (w1 : (Cond.methodLink own index y).before a0 Z = true) (w2 : (Cond.instanceMethod y).before a0 Z = true) (wi : (Cond.instantiable y.cls kn).before a0 Z = true) (w5 : (Cond.privateMethod y).before a0 Z = true) (w3 : (Cond.initialized y.cls).before a0 Z = true) (w4 : (Cond.code y bytes maxL rt).before a0 Z = true) (eT : T.heap = h) (E : Exa Z h a C)
    (hM : JMet l Z y bytes maxL rt [] rm as' h Q) (W : Nat) {g : JFrame} (hg : g.method = m) (hsz : g.locals.size = c.maxLocals) (argsL rest : List Value) (has : as' = (.ref a :: argsL).toArray)
    (hlen : ∀ sig, parseMethodDescriptor y.desc = some sig → argsL.length = sig.parameters.length) (hstack : g.stack = argsL.reverse ++ .ref a :: rest) (hW : 2 * g.monitorRoom + (rest.map fun v => v.category).sum ≤ W)
    (hd : decode c.code g.pc = .ok (.invokevirtual index, 3)) (hy : y.cls ≠ "java/lang/invoke/MethodHandle" ∧ y.cls ≠ "java/lang/invoke/VarHandle") (hf : rm.frames + 1 ≤ R.frames) (hl : W + (maxL + 11) + rm.locals ≤ R.locals) (hc : cells + rm.cells ≤ R.cells) (hs : slots + rm.slots ≤ R.slots)
    (k : ∀ (T' : State) (L' : List Loc) (v : Option Value), Stand p l e R s m args below meth c T' (locs ++ L') (cells + rm.cells) (slots + rm.slots) → Q v T'.heap L' → D (T'.setTop { g with pc := g.pc + 3, stack := v.toList ++ rest })) : D (T.setTop g) := by
  subst has
  obtain ⟨ce, hce, hob⟩ := E.cell
  have hpriv : s.PrivateAt y := Cond.privateMethod_at (mvP hZ w5 (args := #[]))
  have hins : (Cond.instanceMethod y).before args s = true := mvT hZ w2
  have hwi : (Cond.instantiable y.cls kn).before args s = true := mvT hZ wi
  obtain ⟨ck, kk, c1, c2, -, c4, -⟩ := Cond.instantiable_spec hwi
  have hsel := selects_self_of_private c1 c2 (Bool.or_eq_false_iff.mp c4).1 hpriv hins hy
  obtain ⟨v, _, ⟨T', L, k', n'⟩, -, X', ⟨Lc, hQ, l', y', z'⟩, st⟩ := X.privateBack hx (y := y) hown (mvT hZ w1) hins hsel hpriv (mvT hZ w4) hy (backOf (W := W) hM hZ w4 w3 hf hl) (g := g) hg hsz (Steps.refl _) (a := a) (cell := ce) (by rw [eT]; exact hce) hob (argsL := argsL) (rest := rest) hlen hstack hW hd (fun _ _ => ⟨rfl, eT, hc, hs⟩)
  dsimp only [Pt.U, Pt.locs, Pt.cells, Pt.slots] at X' l' y' z' st hQ
  subst l' y' z'
  exact A.tr st (k T' Lc v X' hQ)
end Kit
/-! ### arrays by a function of the place -/
section Arrays
variable {p : Program} {l : Launch} {e : Env} {R : Room} {s : State} {m : MethodId} {args : Array Value} {below : List Frame} {meth : Method} {c : Code} {T : State} {locs : List Loc} {cells slots : Nat} {Z : State} {a0 : Array Value} {h h' : Heap} {D : State → Prop} {a b : Addr} {ty : FieldType} {n : Nat} {f : Nat → Int32} {fJ : Nat → Int64} {sl : Nat} {v : Value} {ws : List Addr}
def ArI (Z : State) (h : Heap) (a : Addr) (ty : FieldType) (n : Nat) (f : Nat → Int32) : Prop :=
  n < 2147483648 ∧ ∃ c : Cell, Arr Z h a c ty ∧ c.slots.size = n ∧ ∀ i, i < n → c.slots[i]? = some (.int (f i))
def ArJ (Z : State) (h : Heap) (a : Addr) (n : Nat) (f : Nat → Int64) : Prop :=
  n < 2147483648 ∧ ∃ c : Cell, Arr Z h a c .long ∧ c.slots.size = n ∧ ∀ i, i < n → c.slots[i]? = some (.long (f i))
theorem ArI.lt (F : ArI Z h a ty n f) : a < h.size := by obtain ⟨-, c, A, -⟩ := F; exact A.lt
theorem ArI.ext (F : ArI Z h a ty n f) (E : Ext h h') : ArI Z h' a ty n f := by obtain ⟨q, c, A, r⟩ := F; exact ⟨q, c, A.ext E, r⟩
theorem ArI.other (F : ArI Z h b ty n f) (W : Wr h h' a sl v) (q : b ≠ a) : ArI Z h' b ty n f := by obtain ⟨z, c, A, r⟩ := F; exact ⟨z, c, A.other W q, r⟩
theorem ArI.keep (F : ArI Z h a ty n f) (K : Keep h h' ws) (q : a ∉ ws) : ArI Z h' a ty n f := by obtain ⟨z, c, A, r⟩ := F; exact ⟨z, c, ⟨K.2.1 a c A.1 q, A.2⟩, r⟩
theorem ArI.eqf {g : Nat → Int32} (F : ArI Z h a ty n f) (q : ∀ i, i < n → f i = g i) : ArI Z h a ty n g := by
  obtain ⟨z, c, A, r, H⟩ := F; exact ⟨z, c, A, r, fun i hi => by rw [← q i hi]; exact H i hi⟩
theorem ArJ.lt (F : ArJ Z h a n fJ) : a < h.size := by obtain ⟨-, c, A, -⟩ := F; exact A.lt
theorem ArJ.ext (F : ArJ Z h a n fJ) (E : Ext h h') : ArJ Z h' a n fJ := by obtain ⟨q, c, A, r⟩ := F; exact ⟨q, c, A.ext E, r⟩
theorem ArJ.other (F : ArJ Z h b n fJ) (W : Wr h h' a sl v) (q : b ≠ a) : ArJ Z h' b n fJ := by obtain ⟨z, c, A, r⟩ := F; exact ⟨z, c, A.other W q, r⟩
theorem ArJ.keep (F : ArJ Z h a n fJ) (K : Keep h h' ws) (q : a ∉ ws) : ArJ Z h' a n fJ := by obtain ⟨z, c, A, r⟩ := F; exact ⟨z, c, ⟨K.2.1 a c A.1 q, A.2⟩, r⟩
theorem ArJ.eqf {g : Nat → Int64} (F : ArJ Z h a n fJ) (q : ∀ i, i < n → fJ i = g i) : ArJ Z h a n g := by
  obtain ⟨z, c, A, r, H⟩ := F; exact ⟨z, c, A, r, fun i hi => by rw [← q i hi]; exact H i hi⟩
theorem ne_ari {C : String} {k : Nat} (F : Exa Z h a C) (wi : (Cond.instantiable C k).before a0 Z = true) (G : ArI Z h b ty n f) : a ≠ b := by obtain ⟨-, c, A, -⟩ := G; exact ne_arr F wi A
theorem ne_arj {C : String} {k : Nat} (F : Exa Z h a C) (wi : (Cond.instantiable C k).before a0 Z = true) (G : ArJ Z h b n fJ) : a ≠ b := by obtain ⟨-, c, A, -⟩ := G; exact ne_arr F wi A
theorem ne_arr2 {c1 c2 : Cell} {t1 t2 : FieldType} (F : Arr Z h a c1 t1) (G : Arr Z h b c2 t2) (hn : t1 ≠ t2) : a ≠ b := fun q => by
  subst q
  cases F.1.symm.trans G.1
  obtain ⟨-, k1, j1, comp1, j2⟩ := F.2.1
  obtain ⟨-, k2, i1, comp2, i2⟩ := G.2.1
  cases j1.symm.trans i1
  rw [j2] at i2
  injection i2 with _ q2
  exact hn q2
theorem ne_aij {n' : Nat} (F : ArI Z h a ty n f) (G : ArJ Z h b n' fJ) (hn : ty ≠ .long) : a ≠ b := by obtain ⟨-, c, A, -⟩ := F; obtain ⟨-, c', A', -⟩ := G; exact ne_arr2 A A' hn
theorem to_nat {j : Int32} {k : Nat} (hk : j.toInt = k) : j.toNatClampNeg = k := by simp only [Int32.toNatClampNeg, hk, Int.toNat_natCast]
theorem inb {cl : Cell} {j : Int32} {k : Nat} (hk : j.toInt = k) (hkn : k < n) (hs : cl.slots.size = n) : ¬ (j < 0 ∨ cl.slots.size ≤ j.toNatClampNeg) := by
  rw [to_nat hk, hs, Int32.lt_iff_toInt_lt, hk, show (0 : Int32).toInt = 0 from rfl]; omega
theorem ixadd {x d : Int32} {k j : Nat} (hx : x.toInt = k) (hd : d.toInt = j) (h : k + j < 2147483648) : (x + d).toInt = ((k + j : Nat) : Int) := by
  have h2 := c_iadd x d
  have h3 := rng32 (x + d)
  omega
theorem ArI.mk {k : ClassId} {z : Int32} (A : Arr Z h a (newA k ty z) ty) (hn : z.toInt = n) (hd : defaultValue ty = .int 0) : ArI Z h a ty n (fun _ => 0) := by
  have hz := to_nat hn
  refine ⟨?_, _, A, by rw [sz_new, hz], fun i hi => ?_⟩
  · have := Int32.toInt_lt z; omega
  · simp [newA, hz, hi, hd]
theorem ArJ.mk {k : ClassId} {z : Int32} (A : Arr Z h a (newA k .long z) .long) (hn : z.toInt = n) : ArJ Z h a n (fun _ => 0) := by
  have hz := to_nat hn
  refine ⟨?_, _, A, by rw [sz_new, hz], fun i hi => ?_⟩
  · have := Int32.toInt_lt z; omega
  · simp [newA, hz, hi, defaultValue]
theorem set_at {cl : Cell} {i k : Nat} (hk : k < cl.slots.size) : (cl.setSlot k v).slots[i]? = if i = k then some v else cl.slots[i]? := by
  simp only [Cell.setSlot, Array.getElem?_setIfInBounds]
  by_cases q : i = k
  · subst q; simp [hk]
  · simp [q, Ne.symm q]
theorem ArI.set {x : Int32} {k : Nat} (F : ArI Z h a ty n f) (W : Wr h h' a k (.int x)) (hk : k < n) : ArI Z h' a ty n (fun i => if i = k then x else f i) := by
  obtain ⟨z, c, A, r, H⟩ := F
  refine ⟨z, _, A.same W, by rw [sz_set, r], fun i hi => ?_⟩
  rw [set_at (by omega)]
  by_cases q : i = k
  · simp [q]
  · simp [q, H i hi]
theorem ArJ.set {x : Int64} {k : Nat} (F : ArJ Z h a n fJ) (W : Wr h h' a k (.long x)) (hk : k < n) : ArJ Z h' a n (fun i => if i = k then x else fJ i) := by
  obtain ⟨z, c, A, r, H⟩ := F
  refine ⟨z, _, A.same W, by rw [sz_set, r], fun i hi => ?_⟩
  rw [set_at (by omega)]
  by_cases q : i = k
  · simp [q]
  · simp [q, H i hi]
theorem Adv.ldI (A : Adv p e below D) (X : Stand p l e R s m args below meth c T locs cells slots) (hx : p.tables.exec = Jvm.exec) (hZ : Z.Warmed39 s.vm) (eT : T.heap = h) (F : ArI Z h a .int n f) {j : Int32} {k : Nat} (hk : j.toInt = k) (hkn : k < n) {g : JFrame} (hg : g.method = m) {rest : List Value} (hs : g.stack = .int j :: .ref a :: rest) (hd : decode c.code g.pc = .ok (.iaload, 1))
    (kk : D (T.setTop { g with pc := g.pc + 1, stack := .int (f k) :: rest })) : D (T.setTop g) := by
  obtain ⟨-, cl, Ar, r, H⟩ := F
  exact A (X.iaload hx (j := j) (v := .int (f k)) (by rw [eT]; exact Ar.1) (State.isArrayOf_alike hZ.alike Ar.2.1) Ar.2.2 (inb hk hkn r) (by rw [to_nat hk]; exact H k hkn) (g := g) hg hs hd _) kk
theorem Adv.ldB (A : Adv p e below D) (X : Stand p l e R s m args below meth c T locs cells slots) (hx : p.tables.exec = Jvm.exec) (hZ : Z.Warmed39 s.vm) (eT : T.heap = h) (F : ArI Z h a .byte n f) {j : Int32} {k : Nat} (hk : j.toInt = k) (hkn : k < n) {g : JFrame} (hg : g.method = m) {rest : List Value} (hs : g.stack = .int j :: .ref a :: rest) (hd : decode c.code g.pc = .ok (.baload, 1))
    (kk : D (T.setTop { g with pc := g.pc + 1, stack := .int (f k) :: rest })) : D (T.setTop g) := by
  obtain ⟨-, cl, Ar, r, H⟩ := F
  exact A (X.baloadBytes hx (j := j) (v := .int (f k)) (by rw [eT]; exact Ar.1) (State.isArrayOf_alike hZ.alike Ar.2.1) Ar.2.2 (inb hk hkn r) (by rw [to_nat hk]; exact H k hkn) (g := g) hg hs hd _) kk
theorem Adv.ldJ (A : Adv p e below D) (X : Stand p l e R s m args below meth c T locs cells slots) (hx : p.tables.exec = Jvm.exec) (hZ : Z.Warmed39 s.vm) (eT : T.heap = h) (F : ArJ Z h a n fJ) {j : Int32} {k : Nat} (hk : j.toInt = k) (hkn : k < n) {g : JFrame} (hg : g.method = m) {rest : List Value} (hs : g.stack = .int j :: .ref a :: rest) (hd : decode c.code g.pc = .ok (.laload, 1))
    (kk : D (T.setTop { g with pc := g.pc + 1, stack := .long (fJ k) :: rest })) : D (T.setTop g) := by
  obtain ⟨-, cl, Ar, r, H⟩ := F
  exact A (X.laload hx (j := j) (v := .long (fJ k)) (by rw [eT]; exact Ar.1) (State.isArrayOf_alike hZ.alike Ar.2.1) Ar.2.2 (inb hk hkn r) (by rw [to_nat hk]; exact H k hkn) (g := g) hg hs hd _) kk
theorem len32 {cl : Cell} (z : n < 2147483648) (r : cl.slots.size = n) : cl.slots.size.toInt32 = Int32.ofNat n   := by rw [r]
theorem Adv.lenI (A : Adv p e below D) (X : Stand p l e R s m args below meth c T locs cells slots) (hx : p.tables.exec = Jvm.exec) (hZ : Z.Warmed39 s.vm) (eT : T.heap = h) (F : ArI Z h a ty n f) {g : JFrame} (hg : g.method = m) {rest : List Value} (hs : g.stack = .ref a :: rest) (hd : decode c.code g.pc = .ok (.arraylength, 1))
    (kk : D (T.setTop { g with pc := g.pc + 1, stack := .int (Int32.ofNat n) :: rest })) : D (T.setTop g) := by
  obtain ⟨z, cl, Ar, r, H⟩ := F
  rw [← len32 z r] at kk
  exact A (X.arraylength hx (by rw [eT]; exact Ar.1) (State.isArrayOf_alike hZ.alike Ar.2.1) (g := g) hg hs hd _) kk
theorem Adv.lenJ (A : Adv p e below D) (X : Stand p l e R s m args below meth c T locs cells slots) (hx : p.tables.exec = Jvm.exec) (hZ : Z.Warmed39 s.vm) (eT : T.heap = h) (F : ArJ Z h a n fJ) {g : JFrame} (hg : g.method = m) {rest : List Value} (hs : g.stack = .ref a :: rest) (hd : decode c.code g.pc = .ok (.arraylength, 1))
    (kk : D (T.setTop { g with pc := g.pc + 1, stack := .int (Int32.ofNat n) :: rest })) : D (T.setTop g) := by
  obtain ⟨z, cl, Ar, r, H⟩ := F
  rw [← len32 z r] at kk
  exact A (X.arraylength hx (by rw [eT]; exact Ar.1) (State.isArrayOf_alike hZ.alike Ar.2.1) (g := g) hg hs hd _) kk
theorem Adv.stI (A : Adv p e below D) (X : Stand p l e R s m args below meth c T locs cells slots) (hx : p.tables.exec = Jvm.exec) (hZ : Z.Warmed39 s.vm) (eT : T.heap = h) (F : ArI Z h a .int n f) {j x : Int32} {k : Nat} (hk : j.toInt = k) (hkn : k < n) {g : JFrame} (hg : g.method = m) {rest : List Value} (hs : g.stack = .int x :: .int j :: .ref a :: rest) (hd : decode c.code g.pc = .ok (.iastore, 1))
    (kk : ∀ T' h', Stand p l e R s m args below meth c T' (locs ++ [⟨a, k⟩]) cells slots → T'.heap = h' → Wr h h' a k (.int x) → ArI Z h' a .int n (fun i => if i = k then x else f i) → D (T'.setTop { g with pc := g.pc + 1, stack := rest })) : D (T.setTop g) := by
  obtain ⟨cl, Ar, r, H⟩ := F.2
  obtain ⟨T', h', X', e', W, st⟩ := Jvm.RoadKit.stI X hx hZ eT Ar (j := j) (x := x) (inb hk hkn r) hg hs hd
  rw [to_nat hk] at X' W
  exact A (fun q => st _ q) (kk T' h' X' e' W (F.set W hkn))
theorem Adv.stB (A : Adv p e below D) (X : Stand p l e R s m args below meth c T locs cells slots) (hx : p.tables.exec = Jvm.exec) (hZ : Z.Warmed39 s.vm) (eT : T.heap = h) (F : ArI Z h a .byte n f) {j x : Int32} {k : Nat} (hk : j.toInt = k) (hkn : k < n) {g : JFrame} (hg : g.method = m) {rest : List Value} (hs : g.stack = .int x :: .int j :: .ref a :: rest) (hd : decode c.code g.pc = .ok (.bastore, 1))
    (kk : ∀ T' h', Stand p l e R s m args below meth c T' (locs ++ [⟨a, k⟩]) cells slots → T'.heap = h' → Wr h h' a k (.int x.toInt8.toInt32) → ArI Z h' a .byte n (fun i => if i = k then x.toInt8.toInt32 else f i) → D (T'.setTop { g with pc := g.pc + 1, stack := rest })) : D (T.setTop g) := by
  obtain ⟨cl, Ar, r, H⟩ := F.2
  obtain ⟨T', h', X', e', W, st⟩ := Jvm.RoadKit.stB X hx hZ eT Ar (j := j) (x := x) (inb hk hkn r) hg hs hd
  rw [to_nat hk] at X' W
  exact A (fun q => st _ q) (kk T' h' X' e' W (F.set W hkn))
theorem Adv.stJ (A : Adv p e below D) (X : Stand p l e R s m args below meth c T locs cells slots) (hx : p.tables.exec = Jvm.exec) (hZ : Z.Warmed39 s.vm) (eT : T.heap = h) (F : ArJ Z h a n fJ) {j : Int32} {x : Int64} {k : Nat} (hk : j.toInt = k) (hkn : k < n) {g : JFrame} (hg : g.method = m) {rest : List Value} (hs : g.stack = .long x :: .int j :: .ref a :: rest) (hd : decode c.code g.pc = .ok (.lastore, 1))
    (kk : ∀ T' h', Stand p l e R s m args below meth c T' (locs ++ [⟨a, k⟩]) cells slots → T'.heap = h' → Wr h h' a k (.long x) → ArJ Z h' a n (fun i => if i = k then x else fJ i) → D (T'.setTop { g with pc := g.pc + 1, stack := rest })) : D (T.setTop g) := by
  obtain ⟨cl, Ar, r, H⟩ := F.2
  obtain ⟨T', h', X', e', W, st⟩ := Jvm.RoadKit.stJ X hx hZ eT Ar (j := j) (x := x) (inb hk hkn r) hg hs hd
  rw [to_nat hk] at X' W
  exact A (fun q => st _ q) (kk T' h' X' e' W (F.set W hkn))
theorem Adv.newI (A : Adv p e below D) (X : Stand p l e R s m args below meth c T locs cells slots) (hx : p.tables.exec = Jvm.exec) (hZ : Z.Warmed39 s.vm) {aty : ArrayType} (w : (Cond.arrayClass (newarray.typeOf aty)).before a0 Z = true) (eT : T.heap = h) {z : Int32} (hz : z.toInt = n) (cap : Nat) (hcap : n ≤ cap) (hb : cap * 8 ≤ 536870912) (hdv : defaultValue (newarray.typeOf aty) = .int 0) {ad : String} (had : "[" ++ (newarray.typeOf aty).toString = ad) (hc : cells + 1 ≤ R.cells) (hl : slots + cap ≤ R.slots) {g : JFrame} (hg : g.method = m) {rest : List Value} (hs : g.stack = .int z :: rest) (hd : decode c.code g.pc = .ok (.newarray aty, 2))
    (kk : ∀ T' h' a, a = h.size → Stand p l e R s m args below meth c T' locs (cells + 1) (slots + cap) → T'.heap = h' → Ext h h' → ArI Z h' a (newarray.typeOf aty) n (fun _ => 0) → Exa Z h' a ad → D (T'.setTop { g with pc := g.pc + 2, stack := .ref a :: rest })) : D (T.setTop g) := by
  have q0 : ¬ z < 0 := by rw [Int32.lt_iff_toInt_lt, hz, show (0 : Int32).toInt = 0 from rfl]; omega
  obtain ⟨T', h', k, X', e', E, Ar, Ex, st⟩ := newPE X hx hZ w eT hg hd hs q0 (cap := cap) (by rw [to_nat hz]; exact hcap) hb hc hl had
  exact A (fun q => st _ q) (kk T' h' _ rfl X' e' E (ArI.mk Ar hz hdv) Ex)
theorem Adv.newJ (A : Adv p e below D) (X : Stand p l e R s m args below meth c T locs cells slots) (hx : p.tables.exec = Jvm.exec) (hZ : Z.Warmed39 s.vm) (w : (Cond.arrayClass .long).before a0 Z = true) (eT : T.heap = h) {z : Int32} (hz : z.toInt = n) (cap : Nat) (hcap : n ≤ cap) (hb : cap * 8 ≤ 536870912) (hc : cells + 1 ≤ R.cells) (hl : slots + cap ≤ R.slots) {g : JFrame} (hg : g.method = m) {rest : List Value} (hs : g.stack = .int z :: rest) (hd : decode c.code g.pc = .ok (.newarray .long, 2))
    (kk : ∀ T' h' a, a = h.size → Stand p l e R s m args below meth c T' locs (cells + 1) (slots + cap) → T'.heap = h' → Ext h h' → ArJ Z h' a n (fun _ => 0) → D (T'.setTop { g with pc := g.pc + 2, stack := .ref a :: rest })) : D (T.setTop g) := by
  have q0 : ¬ z < 0 := by rw [Int32.lt_iff_toInt_lt, hz, show (0 : Int32).toInt = 0 from rfl]; omega
  obtain ⟨T', h', k, X', e', E, Ar, st⟩   := newP (aty := .long) X hx hZ w eT hg hd hs q0 (cap := cap) (by rw [to_nat hz]; exact hcap) hb hc hl
  exact A (fun q => st _ q) (kk T' h' _ rfl X' e' E (ArJ.mk Ar hz))
theorem Adv.cloneI (A : Adv p e below D) (X : Stand p l e R s m args below meth c T locs cells slots) (hx : p.tables.exec = Jvm.exec) (hZ : Z.Warmed39 s.vm) {own ad : String} {index : Nat} (hown : s.vm.findClass own = some m.cls)
    (w1 : (Cond.methodLink own index ⟨ad, "clone", "()Ljava/lang/Object;"⟩).before a0 Z = true) (w2 : (Cond.sameMethod ad "java/lang/Object" "clone" "()Ljava/lang/Object;").before a0 Z = true) (w3 : (Cond.native ⟨"java/lang/Object", "clone", "()Ljava/lang/Object;"⟩).before a0 Z = true)
    (w4 : (Cond.instanceMethod ⟨"java/lang/Object", "clone", "()Ljava/lang/Object;"⟩).before a0 Z = true) (w5 : (Cond.selects ad ⟨ad, "clone", "()Ljava/lang/Object;"⟩ ⟨"java/lang/Object", "clone", "()Ljava/lang/Object;"⟩).before a0 Z = true) (w6 : (Cond.castable ad "java/lang/Cloneable").before a0 Z = true)
    (eT : T.heap = h) (F : ArI Z h a ty n f) (hfit : ∀ i, i < n → fits ty (.int (f i)) = true) (E : Exa Z h a ad) (W cap : Nat) (hcap : n ≤ cap) {g : JFrame} (hg : g.method = m) (hsz : g.locals.size = c.maxLocals) {rest : List Value} (hs : g.stack = .ref a :: rest) (hd : decode c.code g.pc = .ok (.invokevirtual index, 3))
    (hW : 2 * g.monitorRoom + (rest.map fun v => v.category).sum ≤ W) (hf : 1 ≤ R.frames) (hl : W + 14 ≤ R.locals) (hc : cells + 1 ≤ R.cells) (hsl : slots + cap ≤ R.slots)
    (kk : ∀ T' h' b, b = h.size → Stand p l e R s m args below meth c T' locs (cells + 1) (slots + cap) → T'.heap = h' → Ext h h' → ArI Z h' b ty n f → Exa Z h' b ad → D (T'.setTop { g with pc := g.pc + 3, stack := .ref b :: rest })) : D (T.setTop g) := by
  obtain ⟨z, cl, Ar, r, H⟩ := F
  have FC : FitC Z cl := fitC_of Ar fun i hi v hv => by rw [H i (by omega)] at hv; cases hv; exact hfit i (by omega)
  obtain ⟨T', h', X', e', Ex, Ar', E', st⟩ := cloneA X hx hZ hown w1 w2 w3 w4 w5 w6 eT Ar E FC hg hsz hs hd hf hW hl (by rw [r]; exact hcap) hc hsl
  exact A (fun q => st _ q) (kk T' h' _ rfl X' e' Ex ⟨z, _, Ar', r, H⟩ E')
end Arrays
end Jvm.JW
namespace Jvm.Pilot.@@N@@
open Jvm Jvm.ClassFile Sem Op Lib Jvm.Free Jvm.Stand Jvm.LawKit Jvm.RoadKit Bundle Jvm.JW Jvm.Pilot.@@N@@.Jvm.D
theorem d1_0 : decode prog_6_method_8_code 0 = .ok (.lload_n 0, 1) := by decide +kernel
theorem d1_1 : decode prog_6_method_8_code 1 = .ok (.lload_n 0, 1) := by decide +kernel
theorem d1_2 : decode prog_6_method_8_code 2 = .ok (.bipush 33, 2) := by decide +kernel
theorem d1_4 : decode prog_6_method_8_code 4 = .ok (.lushr, 1) := by decide +kernel
theorem d1_5 : decode prog_6_method_8_code 5 = .ok (.lxor, 1) := by decide +kernel
theorem d1_6 : decode prog_6_method_8_code 6 = .ok (.ldc2_w 74, 3) := by decide +kernel
theorem d1_9 : decode prog_6_method_8_code 9 = .ok (.lmul, 1) := by decide +kernel
theorem d1_10 : decode prog_6_method_8_code 10 = .ok (.lstore_n 2, 1) := by decide +kernel
theorem d1_11 : decode prog_6_method_8_code 11 = .ok (.lload_n 2, 1) := by decide +kernel
theorem d1_12 : decode prog_6_method_8_code 12 = .ok (.lload_n 2, 1) := by decide +kernel
theorem d1_13 : decode prog_6_method_8_code 13 = .ok (.bipush 33, 2) := by decide +kernel
theorem d1_15 : decode prog_6_method_8_code 15 = .ok (.lushr, 1) := by decide +kernel
theorem d1_16 : decode prog_6_method_8_code 16 = .ok (.lxor, 1) := by decide +kernel
theorem d1_17 : decode prog_6_method_8_code 17 = .ok (.ldc2_w 76, 3) := by decide +kernel
theorem d1_20 : decode prog_6_method_8_code 20 = .ok (.lmul, 1) := by decide +kernel
theorem d1_21 : decode prog_6_method_8_code 21 = .ok (.lstore_n 2, 1) := by decide +kernel
theorem d1_22 : decode prog_6_method_8_code 22 = .ok (.lload_n 2, 1) := by decide +kernel
theorem d1_23 : decode prog_6_method_8_code 23 = .ok (.lload_n 2, 1) := by decide +kernel
theorem d1_24 : decode prog_6_method_8_code 24 = .ok (.bipush 33, 2) := by decide +kernel
theorem d1_26 : decode prog_6_method_8_code 26 = .ok (.lushr, 1) := by decide +kernel
theorem d1_27 : decode prog_6_method_8_code 27 = .ok (.lxor, 1) := by decide +kernel
theorem d1_28 : decode prog_6_method_8_code 28 = .ok (.lreturn, 1) := by decide +kernel
theorem pn1 : plainFor (⟨"com/example/evenkeel/evenkeel/ConsistentHash", "scramble", "(J)J"⟩ : MethodName) = true := by decide +kernel
theorem ef1 (p1 : Int64) (m : MethodId) : entryFrame m #[(.long p1)] 4 = mkF m 0 #[.val (.long p1), .second, .unset, .unset] [] := by first | (simp [entryFrame, mkF, argsToLocals, Value.category]; done) | rfl
def f1 (p1 : Int64) : Int64 := let x2_11 := ((p1 ^^^ ((p1.toUInt64 >>> ((33 : Int32) &&& 0x3f).toInt64.toUInt64).toInt64)) * (-49064778989728563 : Int64)); let x2_22 := ((x2_11 ^^^ ((x2_11.toUInt64 >>> ((33 : Int32) &&& 0x3f).toInt64.toUInt64).toInt64)) * (-4265267296055464877 : Int64)); (x2_22 ^^^ ((x2_22.toUInt64 >>> ((33 : Int32) &&& 0x3f).toInt64.toUInt64).toInt64))
set_option maxRecDepth 65536 in
set_option maxHeartbeats 40000000 in
theorem rm1 (l : Launch) (Z : State) (a0 : Array Value) (hw : ∀ d ∈ tables_1, d.before a0 Z = true) (ws : List Jvm.Cond) (p1 : Int64) (h0 : Heap) (n0 : Nat) :
    JMet l Z (⟨"com/example/evenkeel/evenkeel/ConsistentHash", "scramble", "(J)J"⟩ : MethodName) prog_6_method_8_code 4 (some .long) ws ({ frames := 0, cells := 0, slots := 0, locals := 0 } : Room) #[(.long p1)] h0 (QP (.long (f1 p1)) h0 n0) := by
  refine Jvm.JW.body #[.val (.long p1), .second, .unset, .unset] pn1 (ef1 p1) ?_
  intro p e s m below meth c T0 D A F X0 hx hZ hby hml hown hnm hrt hlk e0
  refine A (XS.lloadN X0.here hx rfl (hb hby d1_0) rfl) ?_
  show D (T0.setTop (mkF m 1 #[.val (.long p1), .second, .unset, .unset] [(.long p1)]))
  refine A (XS.lloadN X0.here hx rfl (hb hby d1_1) rfl) ?_
  show D (T0.setTop (mkF m 2 #[.val (.long p1), .second, .unset, .unset] [(.long p1), (.long p1)]))
  refine A (XS.bipush X0.here hx rfl (hb hby d1_2)) ?_
  show D (T0.setTop (mkF m 4 #[.val (.long p1), .second, .unset, .unset] [(.int (33 : Int32)), (.long p1), (.long p1)]))
  refine A (XS.lushr X0.here hx rfl (hb hby d1_4) rfl) ?_
  show D (T0.setTop (mkF m 5 #[.val (.long p1), .second, .unset, .unset] [(.long ((p1.toUInt64 >>> ((33 : Int32) &&& 0x3f).toInt64.toUInt64).toInt64)), (.long p1)]))
  refine A (XS.lxor X0.here hx rfl (hb hby d1_5) rfl) ?_
  show D (T0.setTop (mkF m 6 #[.val (.long p1), .second, .unset, .unset] [(.long (p1 ^^^ ((p1.toUInt64 >>> ((33 : Int32) &&& 0x3f).toInt64.toUInt64).toInt64)))]))
  refine A (X0.ldc2Long hx hown (mvT hZ (hw _ (List.mem_of_getElem? (i := 4) rfl))) (g := (mkF m 6 #[.val (.long p1), .second, .unset, .unset] [(.long (p1 ^^^ ((p1.toUInt64 >>> ((33 : Int32) &&& 0x3f).toInt64.toUInt64).toInt64)))])) rfl (hb hby d1_6) _) ?_
  show D (T0.setTop (mkF m 9 #[.val (.long p1), .second, .unset, .unset] [(.long (-49064778989728563 : Int64)), (.long (p1 ^^^ ((p1.toUInt64 >>> ((33 : Int32) &&& 0x3f).toInt64.toUInt64).toInt64)))]))
  refine A (XS.lmul X0.here hx rfl (hb hby d1_9) rfl) ?_
  show D (T0.setTop (mkF m 10 #[.val (.long p1), .second, .unset, .unset] [(.long ((p1 ^^^ ((p1.toUInt64 >>> ((33 : Int32) &&& 0x3f).toInt64.toUInt64).toInt64)) * (-49064778989728563 : Int64)))]))
  refine A (XS.lstoreN X0.here hx rfl (hb hby d1_10) rfl (l' := #[.val (.long p1), .second, .val (.long ((p1 ^^^ ((p1.toUInt64 >>> ((33 : Int32) &&& 0x3f).toInt64.toUInt64).toInt64)) * (-49064778989728563 : Int64))), .second]) rfl) ?_
  show D (T0.setTop (mkF m 11 #[.val (.long p1), .second, .val (.long ((p1 ^^^ ((p1.toUInt64 >>> ((33 : Int32) &&& 0x3f).toInt64.toUInt64).toInt64)) * (-49064778989728563 : Int64))), .second] []))
  suffices Kx2_11 : ∀ x2_11 : Int64, x2_11 = ((p1 ^^^ ((p1.toUInt64 >>> ((33 : Int32) &&& 0x3f).toInt64.toUInt64).toInt64)) * (-49064778989728563 : Int64)) → D (T0.setTop (mkF m 11 #[.val (.long p1), .second, .val (.long x2_11), .second] [])) from Kx2_11 _ rfl
  intro x2_11 hx2_11
  refine A (XS.lloadN X0.here hx rfl (hb hby d1_11) rfl) ?_
  show D (T0.setTop (mkF m 12 #[.val (.long p1), .second, .val (.long x2_11), .second] [(.long x2_11)]))
  refine A (XS.lloadN X0.here hx rfl (hb hby d1_12) rfl) ?_
  show D (T0.setTop (mkF m 13 #[.val (.long p1), .second, .val (.long x2_11), .second] [(.long x2_11), (.long x2_11)]))
  refine A (XS.bipush X0.here hx rfl (hb hby d1_13)) ?_
  show D (T0.setTop (mkF m 15 #[.val (.long p1), .second, .val (.long x2_11), .second] [(.int (33 : Int32)), (.long x2_11), (.long x2_11)]))
  refine A (XS.lushr X0.here hx rfl (hb hby d1_15) rfl) ?_
  show D (T0.setTop (mkF m 16 #[.val (.long p1), .second, .val (.long x2_11), .second] [(.long ((x2_11.toUInt64 >>> ((33 : Int32) &&& 0x3f).toInt64.toUInt64).toInt64)), (.long x2_11)]))
  refine A (XS.lxor X0.here hx rfl (hb hby d1_16) rfl) ?_
  show D (T0.setTop (mkF m 17 #[.val (.long p1), .second, .val (.long x2_11), .second] [(.long (x2_11 ^^^ ((x2_11.toUInt64 >>> ((33 : Int32) &&& 0x3f).toInt64.toUInt64).toInt64)))]))
  refine A (X0.ldc2Long hx hown (mvT hZ (hw _ (List.mem_of_getElem? (i := 5) rfl))) (g := (mkF m 17 #[.val (.long p1), .second, .val (.long x2_11), .second] [(.long (x2_11 ^^^ ((x2_11.toUInt64 >>> ((33 : Int32) &&& 0x3f).toInt64.toUInt64).toInt64)))])) rfl (hb hby d1_17) _) ?_
  show D (T0.setTop (mkF m 20 #[.val (.long p1), .second, .val (.long x2_11), .second] [(.long (-4265267296055464877 : Int64)), (.long (x2_11 ^^^ ((x2_11.toUInt64 >>> ((33 : Int32) &&& 0x3f).toInt64.toUInt64).toInt64)))]))
  refine A (XS.lmul X0.here hx rfl (hb hby d1_20) rfl) ?_
  show D (T0.setTop (mkF m 21 #[.val (.long p1), .second, .val (.long x2_11), .second] [(.long ((x2_11 ^^^ ((x2_11.toUInt64 >>> ((33 : Int32) &&& 0x3f).toInt64.toUInt64).toInt64)) * (-4265267296055464877 : Int64)))]))
  refine A (XS.lstoreN X0.here hx rfl (hb hby d1_21) rfl (l' := #[.val (.long p1), .second, .val (.long ((x2_11 ^^^ ((x2_11.toUInt64 >>> ((33 : Int32) &&& 0x3f).toInt64.toUInt64).toInt64)) * (-4265267296055464877 : Int64))), .second]) rfl) ?_
  show D (T0.setTop (mkF m 22 #[.val (.long p1), .second, .val (.long ((x2_11 ^^^ ((x2_11.toUInt64 >>> ((33 : Int32) &&& 0x3f).toInt64.toUInt64).toInt64)) * (-4265267296055464877 : Int64))), .second] []))
  suffices Kx2_22 : ∀ x2_22 : Int64, x2_22 = ((x2_11 ^^^ ((x2_11.toUInt64 >>> ((33 : Int32) &&& 0x3f).toInt64.toUInt64).toInt64)) * (-4265267296055464877 : Int64)) → D (T0.setTop (mkF m 22 #[.val (.long p1), .second, .val (.long x2_22), .second] [])) from Kx2_22 _ rfl
  intro x2_22 hx2_22
  refine A (XS.lloadN X0.here hx rfl (hb hby d1_22) rfl) ?_
  show D (T0.setTop (mkF m 23 #[.val (.long p1), .second, .val (.long x2_22), .second] [(.long x2_22)]))
  refine A (XS.lloadN X0.here hx rfl (hb hby d1_23) rfl) ?_
  show D (T0.setTop (mkF m 24 #[.val (.long p1), .second, .val (.long x2_22), .second] [(.long x2_22), (.long x2_22)]))
  refine A (XS.bipush X0.here hx rfl (hb hby d1_24)) ?_
  show D (T0.setTop (mkF m 26 #[.val (.long p1), .second, .val (.long x2_22), .second] [(.int (33 : Int32)), (.long x2_22), (.long x2_22)]))
  refine A (XS.lushr X0.here hx rfl (hb hby d1_26) rfl) ?_
  show D (T0.setTop (mkF m 27 #[.val (.long p1), .second, .val (.long x2_22), .second] [(.long ((x2_22.toUInt64 >>> ((33 : Int32) &&& 0x3f).toInt64.toUInt64).toInt64)), (.long x2_22)]))
  refine A (XS.lxor X0.here hx rfl (hb hby d1_27) rfl) ?_
  show D (T0.setTop (mkF m 28 #[.val (.long p1), .second, .val (.long x2_22), .second] [(.long (x2_22 ^^^ ((x2_22.toUInt64 >>> ((33 : Int32) &&& 0x3f).toInt64.toUInt64).toInt64)))]))
  refine F _ (Jvm.JW.ret X0 hlk (v := some (.long (x2_22 ^^^ ((x2_22.toUInt64 >>> ((33 : Int32) &&& 0x3f).toInt64.toUInt64).toInt64)))) (fun h => by rw [hrt] at h; cases h) (fun fs hr => retOut X0 hx hrt rfl (Or.inr (Or.inl ⟨rfl, rfl, _, rfl⟩)) (hb hby d1_28) hr) ?_ (by decide) (by decide))
  exact ⟨congrArg (fun z => some (Value.long z)) (by subst hx2_22; subst hx2_11; rfl), (Fr.nil n0), e0⟩
theorem d2_0 : decode method_2_code 0 = .ok (.lload_n 0, 1) := by decide +kernel
theorem d2_1 : decode method_2_code 1 = .ok (.lload_n 0, 1) := by decide +kernel
theorem d2_2 : decode method_2_code 2 = .ok (.bipush 33, 2) := by decide +kernel
theorem d2_4 : decode method_2_code 4 = .ok (.lushr, 1) := by decide +kernel
theorem d2_5 : decode method_2_code 5 = .ok (.lxor, 1) := by decide +kernel
theorem d2_6 : decode method_2_code 6 = .ok (.lstore_n 2, 1) := by decide +kernel
theorem d2_7 : decode method_2_code 7 = .ok (.lload_n 2, 1) := by decide +kernel
theorem d2_8 : decode method_2_code 8 = .ok (.ldc2_w 7, 3) := by decide +kernel
theorem d2_11 : decode method_2_code 11 = .ok (.lmul, 1) := by decide +kernel
theorem d2_12 : decode method_2_code 12 = .ok (.lstore_n 2, 1) := by decide +kernel
theorem d2_13 : decode method_2_code 13 = .ok (.lload_n 2, 1) := by decide +kernel
theorem d2_14 : decode method_2_code 14 = .ok (.lload_n 2, 1) := by decide +kernel
theorem d2_15 : decode method_2_code 15 = .ok (.bipush 33, 2) := by decide +kernel
theorem d2_17 : decode method_2_code 17 = .ok (.lushr, 1) := by decide +kernel
theorem d2_18 : decode method_2_code 18 = .ok (.lxor, 1) := by decide +kernel
theorem d2_19 : decode method_2_code 19 = .ok (.lstore_n 2, 1) := by decide +kernel
theorem d2_20 : decode method_2_code 20 = .ok (.lload_n 2, 1) := by decide +kernel
theorem d2_21 : decode method_2_code 21 = .ok (.ldc2_w 9, 3) := by decide +kernel
theorem d2_24 : decode method_2_code 24 = .ok (.lmul, 1) := by decide +kernel
theorem d2_25 : decode method_2_code 25 = .ok (.lstore_n 2, 1) := by decide +kernel
theorem d2_26 : decode method_2_code 26 = .ok (.lload_n 2, 1) := by decide +kernel
theorem d2_27 : decode method_2_code 27 = .ok (.lload_n 2, 1) := by decide +kernel
theorem d2_28 : decode method_2_code 28 = .ok (.bipush 33, 2) := by decide +kernel
theorem d2_30 : decode method_2_code 30 = .ok (.lushr, 1) := by decide +kernel
theorem d2_31 : decode method_2_code 31 = .ok (.lxor, 1) := by decide +kernel
theorem d2_32 : decode method_2_code 32 = .ok (.lstore_n 2, 1) := by decide +kernel
theorem d2_33 : decode method_2_code 33 = .ok (.lload_n 2, 1) := by decide +kernel
theorem d2_34 : decode method_2_code 34 = .ok (.lreturn, 1) := by decide +kernel
theorem pn2 : plainFor (⟨"com/example/evenkeel/evenkeel/ConsistentHashScramblePinLaw", "unscramble", "(J)J"⟩ : MethodName) = true := by decide +kernel
theorem ef2 (p1 : Int64) (m : MethodId) : entryFrame m #[(.long p1)] 4 = mkF m 0 #[.val (.long p1), .second, .unset, .unset] [] := by first | (simp [entryFrame, mkF, argsToLocals, Value.category]; done) | rfl
def f2 (p1 : Int64) : Int64 := let x2_7 := (p1 ^^^ ((p1.toUInt64 >>> ((33 : Int32) &&& 0x3f).toInt64.toUInt64).toInt64)); let x2_13 := (x2_7 * (-7154897129451604005 : Int64)); let x2_20 := (x2_13 ^^^ ((x2_13.toUInt64 >>> ((33 : Int32) &&& 0x3f).toInt64.toUInt64).toInt64)); let x2_26 := (x2_20 * (5725274745694666757 : Int64)); let x2_33 := (x2_26 ^^^ ((x2_26.toUInt64 >>> ((33 : Int32) &&& 0x3f).toInt64.toUInt64).toInt64)); x2_33
set_option maxRecDepth 65536 in
set_option maxHeartbeats 40000000 in
theorem rm2 (l : Launch) (Z : State) (a0 : Array Value) (hw : ∀ d ∈ tables_1, d.before a0 Z = true) (ws : List Jvm.Cond) (p1 : Int64) (h0 : Heap) (n0 : Nat) :
    JMet l Z (⟨"com/example/evenkeel/evenkeel/ConsistentHashScramblePinLaw", "unscramble", "(J)J"⟩ : MethodName) method_2_code 4 (some .long) ws ({ frames := 0, cells := 0, slots := 0, locals := 0 } : Room) #[(.long p1)] h0 (QP (.long (f2 p1)) h0 n0) := by
  refine Jvm.JW.body #[.val (.long p1), .second, .unset, .unset] pn2 (ef2 p1) ?_
  intro p e s m below meth c T0 D A F X0 hx hZ hby hml hown hnm hrt hlk e0
  refine A (XS.lloadN X0.here hx rfl (hb hby d2_0) rfl) ?_
  show D (T0.setTop (mkF m 1 #[.val (.long p1), .second, .unset, .unset] [(.long p1)]))
  refine A (XS.lloadN X0.here hx rfl (hb hby d2_1) rfl) ?_
  show D (T0.setTop (mkF m 2 #[.val (.long p1), .second, .unset, .unset] [(.long p1), (.long p1)]))
  refine A (XS.bipush X0.here hx rfl (hb hby d2_2)) ?_
  show D (T0.setTop (mkF m 4 #[.val (.long p1), .second, .unset, .unset] [(.int (33 : Int32)), (.long p1), (.long p1)]))
  refine A (XS.lushr X0.here hx rfl (hb hby d2_4) rfl) ?_
  show D (T0.setTop (mkF m 5 #[.val (.long p1), .second, .unset, .unset] [(.long ((p1.toUInt64 >>> ((33 : Int32) &&& 0x3f).toInt64.toUInt64).toInt64)), (.long p1)]))
  refine A (XS.lxor X0.here hx rfl (hb hby d2_5) rfl) ?_
  show D (T0.setTop (mkF m 6 #[.val (.long p1), .second, .unset, .unset] [(.long (p1 ^^^ ((p1.toUInt64 >>> ((33 : Int32) &&& 0x3f).toInt64.toUInt64).toInt64)))]))
  refine A (XS.lstoreN X0.here hx rfl (hb hby d2_6) rfl (l' := #[.val (.long p1), .second, .val (.long (p1 ^^^ ((p1.toUInt64 >>> ((33 : Int32) &&& 0x3f).toInt64.toUInt64).toInt64))), .second]) rfl) ?_
  show D (T0.setTop (mkF m 7 #[.val (.long p1), .second, .val (.long (p1 ^^^ ((p1.toUInt64 >>> ((33 : Int32) &&& 0x3f).toInt64.toUInt64).toInt64))), .second] []))
  suffices Kx2_7 : ∀ x2_7 : Int64, x2_7 = (p1 ^^^ ((p1.toUInt64 >>> ((33 : Int32) &&& 0x3f).toInt64.toUInt64).toInt64)) → D (T0.setTop (mkF m 7 #[.val (.long p1), .second, .val (.long x2_7), .second] [])) from Kx2_7 _ rfl
  intro x2_7 hx2_7
  refine A (XS.lloadN X0.here hx rfl (hb hby d2_7) rfl) ?_
  show D (T0.setTop (mkF m 8 #[.val (.long p1), .second, .val (.long x2_7), .second] [(.long x2_7)]))
  refine A (X0.ldc2Long hx hown (mvT hZ (hw _ (List.mem_of_getElem? (i := 10) rfl))) (g := (mkF m 8 #[.val (.long p1), .second, .val (.long x2_7), .second] [(.long x2_7)])) rfl (hb hby d2_8) _) ?_
  show D (T0.setTop (mkF m 11 #[.val (.long p1), .second, .val (.long x2_7), .second] [(.long (-7154897129451604005 : Int64)), (.long x2_7)]))
  refine A (XS.lmul X0.here hx rfl (hb hby d2_11) rfl) ?_
  show D (T0.setTop (mkF m 12 #[.val (.long p1), .second, .val (.long x2_7), .second] [(.long (x2_7 * (-7154897129451604005 : Int64)))]))
  refine A (XS.lstoreN X0.here hx rfl (hb hby d2_12) rfl (l' := #[.val (.long p1), .second, .val (.long (x2_7 * (-7154897129451604005 : Int64))), .second]) rfl) ?_
  show D (T0.setTop (mkF m 13 #[.val (.long p1), .second, .val (.long (x2_7 * (-7154897129451604005 : Int64))), .second] []))
  suffices Kx2_13 : ∀ x2_13 : Int64, x2_13 = (x2_7 * (-7154897129451604005 : Int64)) → D (T0.setTop (mkF m 13 #[.val (.long p1), .second, .val (.long x2_13), .second] [])) from Kx2_13 _ rfl
  intro x2_13 hx2_13
  refine A (XS.lloadN X0.here hx rfl (hb hby d2_13) rfl) ?_
  show D (T0.setTop (mkF m 14 #[.val (.long p1), .second, .val (.long x2_13), .second] [(.long x2_13)]))
  refine A (XS.lloadN X0.here hx rfl (hb hby d2_14) rfl) ?_
  show D (T0.setTop (mkF m 15 #[.val (.long p1), .second, .val (.long x2_13), .second] [(.long x2_13), (.long x2_13)]))
  refine A (XS.bipush X0.here hx rfl (hb hby d2_15)) ?_
  show D (T0.setTop (mkF m 17 #[.val (.long p1), .second, .val (.long x2_13), .second] [(.int (33 : Int32)), (.long x2_13), (.long x2_13)]))
  refine A (XS.lushr X0.here hx rfl (hb hby d2_17) rfl) ?_
  show D (T0.setTop (mkF m 18 #[.val (.long p1), .second, .val (.long x2_13), .second] [(.long ((x2_13.toUInt64 >>> ((33 : Int32) &&& 0x3f).toInt64.toUInt64).toInt64)), (.long x2_13)]))
  refine A (XS.lxor X0.here hx rfl (hb hby d2_18) rfl) ?_
  show D (T0.setTop (mkF m 19 #[.val (.long p1), .second, .val (.long x2_13), .second] [(.long (x2_13 ^^^ ((x2_13.toUInt64 >>> ((33 : Int32) &&& 0x3f).toInt64.toUInt64).toInt64)))]))
  refine A (XS.lstoreN X0.here hx rfl (hb hby d2_19) rfl (l' := #[.val (.long p1), .second, .val (.long (x2_13 ^^^ ((x2_13.toUInt64 >>> ((33 : Int32) &&& 0x3f).toInt64.toUInt64).toInt64))), .second]) rfl) ?_
  show D (T0.setTop (mkF m 20 #[.val (.long p1), .second, .val (.long (x2_13 ^^^ ((x2_13.toUInt64 >>> ((33 : Int32) &&& 0x3f).toInt64.toUInt64).toInt64))), .second] []))
  suffices Kx2_20 : ∀ x2_20 : Int64, x2_20 = (x2_13 ^^^ ((x2_13.toUInt64 >>> ((33 : Int32) &&& 0x3f).toInt64.toUInt64).toInt64)) → D (T0.setTop (mkF m 20 #[.val (.long p1), .second, .val (.long x2_20), .second] [])) from Kx2_20 _ rfl
  intro x2_20 hx2_20
  refine A (XS.lloadN X0.here hx rfl (hb hby d2_20) rfl) ?_
  show D (T0.setTop (mkF m 21 #[.val (.long p1), .second, .val (.long x2_20), .second] [(.long x2_20)]))
  refine A (X0.ldc2Long hx hown (mvT hZ (hw _ (List.mem_of_getElem? (i := 11) rfl))) (g := (mkF m 21 #[.val (.long p1), .second, .val (.long x2_20), .second] [(.long x2_20)])) rfl (hb hby d2_21) _) ?_
  show D (T0.setTop (mkF m 24 #[.val (.long p1), .second, .val (.long x2_20), .second] [(.long (5725274745694666757 : Int64)), (.long x2_20)]))
  refine A (XS.lmul X0.here hx rfl (hb hby d2_24) rfl) ?_
  show D (T0.setTop (mkF m 25 #[.val (.long p1), .second, .val (.long x2_20), .second] [(.long (x2_20 * (5725274745694666757 : Int64)))]))
  refine A (XS.lstoreN X0.here hx rfl (hb hby d2_25) rfl (l' := #[.val (.long p1), .second, .val (.long (x2_20 * (5725274745694666757 : Int64))), .second]) rfl) ?_
  show D (T0.setTop (mkF m 26 #[.val (.long p1), .second, .val (.long (x2_20 * (5725274745694666757 : Int64))), .second] []))
  suffices Kx2_26 : ∀ x2_26 : Int64, x2_26 = (x2_20 * (5725274745694666757 : Int64)) → D (T0.setTop (mkF m 26 #[.val (.long p1), .second, .val (.long x2_26), .second] [])) from Kx2_26 _ rfl
  intro x2_26 hx2_26
  refine A (XS.lloadN X0.here hx rfl (hb hby d2_26) rfl) ?_
  show D (T0.setTop (mkF m 27 #[.val (.long p1), .second, .val (.long x2_26), .second] [(.long x2_26)]))
  refine A (XS.lloadN X0.here hx rfl (hb hby d2_27) rfl) ?_
  show D (T0.setTop (mkF m 28 #[.val (.long p1), .second, .val (.long x2_26), .second] [(.long x2_26), (.long x2_26)]))
  refine A (XS.bipush X0.here hx rfl (hb hby d2_28)) ?_
  show D (T0.setTop (mkF m 30 #[.val (.long p1), .second, .val (.long x2_26), .second] [(.int (33 : Int32)), (.long x2_26), (.long x2_26)]))
  refine A (XS.lushr X0.here hx rfl (hb hby d2_30) rfl) ?_
  show D (T0.setTop (mkF m 31 #[.val (.long p1), .second, .val (.long x2_26), .second] [(.long ((x2_26.toUInt64 >>> ((33 : Int32) &&& 0x3f).toInt64.toUInt64).toInt64)), (.long x2_26)]))
  refine A (XS.lxor X0.here hx rfl (hb hby d2_31) rfl) ?_
  show D (T0.setTop (mkF m 32 #[.val (.long p1), .second, .val (.long x2_26), .second] [(.long (x2_26 ^^^ ((x2_26.toUInt64 >>> ((33 : Int32) &&& 0x3f).toInt64.toUInt64).toInt64)))]))
  refine A (XS.lstoreN X0.here hx rfl (hb hby d2_32) rfl (l' := #[.val (.long p1), .second, .val (.long (x2_26 ^^^ ((x2_26.toUInt64 >>> ((33 : Int32) &&& 0x3f).toInt64.toUInt64).toInt64))), .second]) rfl) ?_
  show D (T0.setTop (mkF m 33 #[.val (.long p1), .second, .val (.long (x2_26 ^^^ ((x2_26.toUInt64 >>> ((33 : Int32) &&& 0x3f).toInt64.toUInt64).toInt64))), .second] []))
  suffices Kx2_33 : ∀ x2_33 : Int64, x2_33 = (x2_26 ^^^ ((x2_26.toUInt64 >>> ((33 : Int32) &&& 0x3f).toInt64.toUInt64).toInt64)) → D (T0.setTop (mkF m 33 #[.val (.long p1), .second, .val (.long x2_33), .second] [])) from Kx2_33 _ rfl
  intro x2_33 hx2_33
  refine A (XS.lloadN X0.here hx rfl (hb hby d2_33) rfl) ?_
  show D (T0.setTop (mkF m 34 #[.val (.long p1), .second, .val (.long x2_33), .second] [(.long x2_33)]))
  refine F _ (Jvm.JW.ret X0 hlk (v := some (.long x2_33)) (fun h => by rw [hrt] at h; cases h) (fun fs hr => retOut X0 hx hrt rfl (Or.inr (Or.inl ⟨rfl, rfl, _, rfl⟩)) (hb hby d2_34) hr) ?_ (by decide) (by decide))
  exact ⟨congrArg (fun z => some (Value.long z)) (by subst hx2_33; subst hx2_26; subst hx2_20; subst hx2_13; subst hx2_7; rfl), (Fr.nil n0), e0⟩
def own_xs (y : Int64) : Int64 := y ^^^ ((y.toUInt64 >>> ((33 : Int32) &&& 0x3f).toInt64.toUInt64).toInt64)
theorem own_sh (y : Int64) : ((y.toUInt64 >>> ((33 : Int32) &&& 0x3f).toInt64.toUInt64).toInt64).toBitVec = y.toBitVec >>> 33 := by
  rw [show ((33 : Int32) &&& 0x3f).toInt64.toUInt64 = 33 from by decide]
  rfl
theorem own_bv (b : BitVec 64) : (b ^^^ (b >>> 33)) ^^^ ((b ^^^ (b >>> 33)) >>> 33) = b := by
  ext i hi
  simp only [BitVec.getElem_xor, BitVec.getElem_ushiftRight, BitVec.getLsbD_xor, BitVec.getLsbD_ushiftRight]
  have h : b.getLsbD (33 + (33 + i)) = false := BitVec.getLsbD_of_ge _ _ (by omega)
  rw [h]
  simp
theorem own_xs2 (y : Int64) : own_xs (own_xs y) = y := by
  apply Int64.toBitVec_inj.mp
  unfold own_xs
  simp only [Int64.toBitVec_xor, own_sh]
  exact own_bv _
theorem own_un (v : Int64) : f2 (f1 v) = v := by
  have e1 : f1 v = own_xs (own_xs (own_xs v * (-49064778989728563 : Int64)) * (-4265267296055464877 : Int64)) := rfl
  have e2 : ∀ h, f2 h = own_xs (own_xs (own_xs h * (-7154897129451604005 : Int64)) * (5725274745694666757 : Int64)) := fun _ => rfl
  rw [e1, e2, own_xs2, Int64.mul_assoc, show (-4265267296055464877 : Int64) * (-7154897129451604005 : Int64) = 1 from by decide, Int64.mul_one, own_xs2, Int64.mul_assoc, show (-49064778989728563 : Int64) * (5725274745694666757 : Int64) = 1 from by decide, Int64.mul_one, own_xs2]
theorem pn0 : plainFor x = true := by decide +kernel
theorem pd0_0 : parseMethodDescriptor "(J)J" = some ⟨[.long], some .long⟩ := by decide +kernel
theorem ef0 (p1 : Int64) (m : MethodId) : entryFrame m #[(.long p1)] maxLocals = mkF m 0 #[.val (.long p1), .second, .unset, .unset] [] := by first | (simp [entryFrame, mkF, argsToLocals, Value.category, maxLocals]; done) | rfl
set_option maxRecDepth 65536 in
set_option maxHeartbeats 40000000 in
theorem rm0 (l : Launch) (Z : State) (a0 : Array Value) (hw : ∀ d ∈ tables_1, d.before a0 Z = true) (ws : List Jvm.Cond) (p1 : Int64) (h0 : Heap) (n0 : Nat) :
    JMet l Z x code maxLocals ret ws room_1 #[(.long p1)] h0 (QL n0) := by
  refine Jvm.JW.body #[.val (.long p1), .second, .unset, .unset] pn0 (ef0 p1) ?_
  intro p e s m below meth c T0 D A F X0 hx hZ hby hml hown hnm hrt hlk e0
  refine A (XS.lloadN X0.here hx rfl (hb hby at_0) rfl) ?_
  show D (T0.setTop (mkF m 1 #[.val (.long p1), .second, .unset, .unset] [(.long p1)]))
  refine Adv.callS A X0 hx hZ hown (hw _ (List.mem_of_getElem? (i := 0) rfl)) (hw _ (List.mem_of_getElem? (i := 1) rfl)) (hw _ (List.mem_of_getElem? (i := 2) rfl)) (hw _ (List.mem_of_getElem? (i := 3) rfl)) e0 (rm1 l Z a0 hw [] p1 h0 n0) 0 (g := (mkF m 1 #[.val (.long p1), .second, .unset, .unset] [(.long p1)])) rfl (by rw [hml]; rfl) [(.long p1)] [] rfl (lenOf pd0_0 rfl) rfl (by show 2 * 0 + _ ≤ _; exact Nat.le_of_eq rfl) (hb hby at_1) (by decide) (by decide) (by decide) (by decide) (by decide) ?_
  rintro T1 L1 _ X1 ⟨rfl, N1q, e1⟩
  have N1 := Fr.app (Fr.nil n0) N1q
  show D (T1.setTop (mkF m 4 #[.val (.long p1), .second, .unset, .unset] [(.long (f1 p1))]))
  refine A (XS.lstoreN X1.here hx rfl (hb hby at_4) rfl (l' := #[.val (.long p1), .second, .val (.long (f1 p1)), .second]) rfl) ?_
  show D (T1.setTop (mkF m 5 #[.val (.long p1), .second, .val (.long (f1 p1)), .second] []))
  refine A (XS.lloadN X1.here hx rfl (hb hby at_5) rfl) ?_
  show D (T1.setTop (mkF m 6 #[.val (.long p1), .second, .val (.long (f1 p1)), .second] [(.long (f1 p1))]))
  refine Adv.callS A X1 hx hZ hown (hw _ (List.mem_of_getElem? (i := 6) rfl)) (hw _ (List.mem_of_getElem? (i := 7) rfl)) (hw _ (List.mem_of_getElem? (i := 8) rfl)) (hw _ (List.mem_of_getElem? (i := 9) rfl)) e1 (rm2 l Z a0 hw [] (f1 p1) h0 n0) 0 (g := (mkF m 6 #[.val (.long p1), .second, .val (.long (f1 p1)), .second] [(.long (f1 p1))])) rfl (by rw [hml]; rfl) [(.long (f1 p1))] [] rfl (lenOf pd0_0 rfl) rfl (by show 2 * 0 + _ ≤ _; exact Nat.le_of_eq rfl) (hb hby at_6) (by decide) (by decide) (by decide) (by decide) (by decide) ?_
  rintro T2 L2 _ X2 ⟨rfl, N2q, e2⟩
  have N2 := Fr.app N1 N2q
  show D (T2.setTop (mkF m 9 #[.val (.long p1), .second, .val (.long (f1 p1)), .second] [(.long (f2 (f1 p1)))]))
  refine A (XS.lloadN X2.here hx rfl (hb hby at_9) rfl) ?_
  show D (T2.setTop (mkF m 10 #[.val (.long p1), .second, .val (.long (f1 p1)), .second] [(.long p1), (.long (f2 (f1 p1)))]))
  refine A (XS.lcmp X2.here hx rfl (hb hby at_10) rfl) ?_
  show D (T2.setTop (mkF m 11 #[.val (.long p1), .second, .val (.long (f1 p1)), .second] [(.int (lcmpW (f2 (f1 p1)) p1))]))
  suffices Km19_3 : ∀ (v19s0 : Int32), v19s0 = (if (lcmpW (f2 (f1 p1)) p1) = (0 : Int32) then (1 : Int32) else (0 : Int32)) → D (T2.setTop (mkF m 19 #[.val (.long p1), .second, .val (.long (f1 p1)), .second] [(.int v19s0)])) by
    by_cases c11_0 : (lcmpW (f2 (f1 p1)) p1) = (0 : Int32)
    · refine A (XS.ifNo X2.here hx rfl (hb hby at_11) rfl ((if0 _ _).trans (teq c11_0).2)) ?_
      show D (T2.setTop (mkF m 14 #[.val (.long p1), .second, .val (.long (f1 p1)), .second] []))
      refine A (XS.iconst X2.here hx rfl (hb hby at_14)) ?_
      show D (T2.setTop (mkF m 15 #[.val (.long p1), .second, .val (.long (f1 p1)), .second] [(.int (1 : Int32))]))
      refine A (XS.goto X2.here hx rfl (pc0 := 15) (pc' := 19) rfl (hb hby at_15) (by decide) (by decide)) ?_
      show D (T2.setTop (mkF m 19 #[.val (.long p1), .second, .val (.long (f1 p1)), .second] [(.int (1 : Int32))]))
      exact Km19_3 _ ((if_pos c11_0)).symm
    · refine A (XS.ifYes X2.here hx rfl (pc0 := 11) (pc' := 18) rfl (hb hby at_11) rfl ((if0 _ _).trans (feq c11_0).2) (by decide) (by decide)) ?_
      show D (T2.setTop (mkF m 18 #[.val (.long p1), .second, .val (.long (f1 p1)), .second] []))
      refine A (XS.iconst X2.here hx rfl (hb hby at_18)) ?_
      show D (T2.setTop (mkF m 19 #[.val (.long p1), .second, .val (.long (f1 p1)), .second] [(.int (0 : Int32))]))
      exact Km19_3 _ ((if_neg c11_0)).symm
  intro v19s0 hv19s0
  show D (T2.setTop (mkF m 19 #[.val (.long p1), .second, .val (.long (f1 p1)), .second] [(.int v19s0)]))
  obtain rfl : v19s0 = (1 : Int32) := by
    rw [hv19s0, if_pos]
    rw [lw_eq]
    exact own_un _
  show D (T2.setTop (mkF m 19 #[.val (.long p1), .second, .val (.long (f1 p1)), .second] [(.int (1 : Int32))]))
  exact F _ (Jvm.JW.ret X2 hlk (v := some (.int (1 : Int32))) (fun h => by rw [hrt] at h; cases h) (fun fs hr => retOut X2 hx hrt rfl (Or.inl ⟨rfl, Or.inr (Or.inl rfl), _, rfl⟩) (hb hby at_19) hr) ⟨rfl, N2⟩ (by decide) (by decide))
set_option maxRecDepth 65536 in
set_option maxHeartbeats 40000000 in
theorem comes_1 {Post : Tables → Env → Array Value → State → Outcome → State → Prop} (hpost : ∀ tb e args s v u, (limb_1_1.after args s (.returned v) u = true ∧ limb_1_2.after args s (.returned v) u = true ∧ True) → FrameEnd s (.returned v) u (Jvm.fieldLocs frame_1_writes args s ++ Jvm.arrayLocs frame_1_arrays args s ++ Jvm.staticLocs frame_1_statics s) 0 0 → Post tb e args s (.returned v) u) :
    ArmFor flags0 classFile x code maxLocals ret World_1 tables_1 room_1 Calls_1 rest_1 Pre_1 Post := by
  intro l hfl _ _ p e ha hc hk s m args below hf hA hF happ hP
  obtain ⟨hcalls, hrest, hpre⟩ := hP
  obtain ⟨-, -, -, hnamed, -, -, -, hat⟩ := (Spec.applies_iff hf).mp happ
  obtain ⟨hg, hn⟩ := and_e (Cond.before_iff.mp (show (Jvm.Cond.and given_1 narrow_1).before args s = true from hpre))
  obtain ⟨g0, g1⟩ := and_e hg
  obtain ⟨w0, rfl⟩ : ∃ w0 : Value, args = #[w0] := by
    have hs : args.size = 1 := by simpa [Cond.value, given_1] using g0
    obtain ⟨L⟩ := args
    match L, hs with
    | [w0], _ => exact ⟨w0, rfl⟩
  have hw := fun d (hd : d ∈ tables_1) => atoms_spec (ws := Jvm.Cond.code x code maxLocals ret :: tables_1) hat d (List.mem_cons_of_mem _ hd)
  obtain ⟨i0, q0⟩ := isL_v g1
  obtain rfl : w0 = (.long i0) := Option.some.inj q0
  obtain ⟨n, o, h1, h2, h3, _, L, rfl, ⟨rfl, N⟩, hq⟩ := rm0 l s _ hw tables_1 i0 s.heap s.heap.size p e ha hc hk s m _ below hf ((Spec.applies_iff_loose hf).mp happ).1 ⟨rfl, State.Warmed39.refl s, rfl⟩ trivial
  refine ⟨n, _, h1, h2, h3, hpost _ _ _ _ _ _ ⟨Cond.after_iff.mpr rfl, Cond.after_iff.mpr (eq_i res_at (Term.int_eval (1)) rfl), trivial⟩ ⟨hq.1, hq.2.1, (hq.2.2.sift fun y hy => Or.inr (N y hy)).mono (by decide) (by decide)⟩⟩
theorem main_1_1 : Claimed_1_1 := comes_1 fun _ _ _ _ _ _ h hF => ⟨h.1, hF⟩
theorem main_1_2 : Claimed_1_2 := comes_1 fun _ _ _ _ _ _ h hF => ⟨h.2.1, hF⟩
end Jvm.Pilot.@@N@@
namespace Jvm.Pilot.@@N@@
open Jvm Jvm.ClassFile Sem Op Lib Jvm.Free Jvm.Stand Jvm.Pilot.@@N@@.Jvm.D
/-! MADE BY PROGRAM (witnessworld.py) out of the Statement's table words and the real class files: 10 classes; the members and pool entries that the words name. The judged class is class 1, her method 2. -/
namespace start1
open Jvm.ClassFile
def u (s : String) : CpInfo := .utf8 (stringToUtf16 s)
/-- a pool by its gaps: so many unusable entries, then the entry; so many at the end -/
def gap : Nat → List CpInfo → List CpInfo
  | 0, r => r
  | n + 1, r => .unusable :: gap n r
def poolList (es : List (Nat × CpInfo)) (last : Nat) : List CpInfo := es.foldr (fun e r => gap e.1 (e.2 :: r)) (gap last [])
def pool (es : List (Nat × CpInfo)) (last : Nat) : Array CpInfo := ⟨poolList es last⟩
def fileOf (pool : Array CpInfo) (this : Nat) (attrs : Array Attribute := #[]) (ms : Array MethodInfo := #[]) (fl : Nat := 33) (sup : Nat := 0) (ifs : Array Nat := #[]) (fds : Array FieldInfo := #[]) : ClassFile where
  minorVersion := 0
  majorVersion := 65
  constantPool := pool
  accessFlags := fl
  thisClass := this
  superClass := sup
  interfaces := ifs
  fields := fds
  methods := ms
  attributes := attrs
def plain (name : String) (sup : Option ClassId) : Class where
  name := name
  kind := .ordinary
  loader := none
  accessFlags := 33
  super := sup
  interfaces := #[]
  cf := none
  fields := #[]
  methods := #[]
  instanceTypes := #[]
  staticTypes := #[]
  resolved := #[]
  callSites := []
  init := .initialized
  statics := none
  mirror := none

def pool0 : Array CpInfo := pool [(5, u "<init>"), (0, u "()V"), (1, .class_ 10), (1, u "java/lang/Object")] 113

def k0m0 : Method := { name := "<init>", desc := "()V", sig := { parameters := [], returnType := none }, accessFlags := 1, code := none }
/-- java/lang/Object -/
def k0 : Class := { plain "java/lang/Object" none with
  accessFlags := 33
  interfaces := #[]
  cf := some (fileOf pool0 8 #[] #[{ accessFlags := 1, nameIndex := 5, descriptorIndex := 6, attributes := #[] }] 33 0 #[] #[])
  fields := #[]
  methods := #[k0m0]
  instanceTypes := #[]
  staticTypes := #[]
  resolved := Array.replicate 124 none
  statics := none }

def pool1 : Array CpInfo := pool [(2, .class_ 4), (1, u "java/lang/Object"), (0, u "<init>"), (0, u "()V"), (0, .long 11291846944257947611), (1, .long 5725274745694666757), (1, .methodref 12 13), (0, .class_ 14), (0, .nameAndType 15 16), (0, u "com/example/evenkeel/evenkeel/ConsistentHash"), (0, u "scramble"), (0, u "(J)J"), (0, .methodref 18 19), (0, .class_ 20), (0, .nameAndType 21 16), (0, u "com/example/evenkeel/evenkeel/ConsistentHashScramblePinLaw"), (0, u "unscramble"), (2, u "law"), (0, u "(J)Z")] 3

def k1m0 : Method := { name := "<init>", desc := "()V", sig := { parameters := [], returnType := none }, accessFlags := 2, code := none }
def k1c1 : Code := { maxStack := 5, maxLocals := 4, code := method_2_code, exceptionTable := #[], attributes := #[] }
def k1m1 : Method := { name := "unscramble", desc := "(J)J", sig := { parameters := [.long], returnType := some .long }, accessFlags := 10, code := some k1c1 }
def k1c2 : Code := { maxStack := 4, maxLocals := 4, code := code, exceptionTable := #[], attributes := #[] }
def k1m2 : Method := { name := "law", desc := "(J)Z", sig := { parameters := [.long], returnType := some .boolean }, accessFlags := 9, code := some k1c2 }
/-- com/example/evenkeel/evenkeel/ConsistentHashScramblePinLaw -/
def k1 : Class := { plain "com/example/evenkeel/evenkeel/ConsistentHashScramblePinLaw" (some 0) with
  accessFlags := 49
  interfaces := #[]
  cf := some (fileOf pool1 18 #[] #[{ accessFlags := 2, nameIndex := 5, descriptorIndex := 6, attributes := #[] }, { accessFlags := 10, nameIndex := 21, descriptorIndex := 16, attributes := #[] }, { accessFlags := 9, nameIndex := 24, descriptorIndex := 25, attributes := #[] }] 49 2 #[] #[])
  fields := #[]
  methods := #[k1m0, k1m1, k1m2]
  instanceTypes := #[]
  staticTypes := #[]
  resolved := Array.replicate 29 none
  statics := none }

def pool2 : Array CpInfo := pool [(2, .class_ 4), (1, u "com/example/evenkeel/evenkeel/Strategy"), (2, .class_ 8), (0, u "java/lang/Object")] 7

/-- com/example/evenkeel/evenkeel/Strategy -/
def k2 : Class := { plain "com/example/evenkeel/evenkeel/Strategy" (some 0) with
  accessFlags := 1536
  interfaces := #[]
  cf := some (fileOf pool2 2 #[] #[] 1536 7 #[] #[])
  fields := #[]
  methods := #[]
  instanceTypes := #[]
  staticTypes := #[]
  resolved := Array.replicate 16 none
  statics := none }

def pool3 : Array CpInfo := pool [(1, .class_ 2), (0, u "com/example/evenkeel/evenkeel/ConsistentHash"), (1, .class_ 6), (1, u "java/lang/Object"), (2, .class_ 10), (0, u "com/example/evenkeel/evenkeel/ConsistentHash$Rings"), (5, u "rings"), (0, u "Lcom/example/evenkeel/evenkeel/ConsistentHash$Rings;"), (52, u "scramble"), (0, u "(J)J"), (2, .long 18397679294719823053), (1, .long 14181476777654086739), (26, .class_ 104), (0, u "com/example/evenkeel/evenkeel/Strategy"), (0, u "POINTS_PER_INSTANCE"), (0, u "I"), (2, u "PROBES_PER_KEY"), (1, u "SLICE_BITS"), (1, u "SLICES_PER_BLOCK"), (1, u "BANDS"), (1, u "EVERY_RING"), (1, u "HASH_BASIS"), (0, u "J"), (0, u "HASH_PRIME"), (0, u "POINT_STEP"), (0, u "PROBE_STEP"), (15, .class_ 140), (0, u "com/example/evenkeel/evenkeel/ConsistentHash$Ring")] 3

def k3c0 : Code := { maxStack := 5, maxLocals := 4, code := prog_6_method_8_code, exceptionTable := #[], attributes := #[] }
def k3m0 : Method := { name := "scramble", desc := "(J)J", sig := { parameters := [.long], returnType := some .long }, accessFlags := 8, code := some k3c0 }
/-- com/example/evenkeel/evenkeel/ConsistentHash -/
def k3 : Class := { plain "com/example/evenkeel/evenkeel/ConsistentHash" (some 0) with
  accessFlags := 48
  interfaces := #[2]
  cf := some (fileOf pool3 1 #[.nestMembers #[139, 9]] #[{ accessFlags := 8, nameIndex := 70, descriptorIndex := 71, attributes := #[] }] 48 4 #[103] #[{ accessFlags := 24, nameIndex := 105, descriptorIndex := 106, attributes := #[] }, { accessFlags := 24, nameIndex := 109, descriptorIndex := 106, attributes := #[] }, { accessFlags := 26, nameIndex := 111, descriptorIndex := 106, attributes := #[] }, { accessFlags := 26, nameIndex := 113, descriptorIndex := 106, attributes := #[] }, { accessFlags := 26, nameIndex := 115, descriptorIndex := 106, attributes := #[] }, { accessFlags := 26, nameIndex := 117, descriptorIndex := 106, attributes := #[] }, { accessFlags := 26, nameIndex := 119, descriptorIndex := 120, attributes := #[] }, { accessFlags := 26, nameIndex := 121, descriptorIndex := 120, attributes := #[] }, { accessFlags := 26, nameIndex := 122, descriptorIndex := 120, attributes := #[] }, { accessFlags := 26, nameIndex := 123, descriptorIndex := 120, attributes := #[] }, { accessFlags := 66, nameIndex := 16, descriptorIndex := 17, attributes := #[] }])
  fields := #[{ name := "POINTS_PER_INSTANCE", type := .int, accessFlags := 24, slot := 0, constantValue := 0 }, { name := "PROBES_PER_KEY", type := .int, accessFlags := 24, slot := 1, constantValue := 0 }, { name := "SLICE_BITS", type := .int, accessFlags := 26, slot := 2, constantValue := 0 }, { name := "SLICES_PER_BLOCK", type := .int, accessFlags := 26, slot := 3, constantValue := 0 }, { name := "BANDS", type := .int, accessFlags := 26, slot := 4, constantValue := 0 }, { name := "EVERY_RING", type := .int, accessFlags := 26, slot := 5, constantValue := 0 }, { name := "HASH_BASIS", type := .long, accessFlags := 26, slot := 6, constantValue := 0 }, { name := "HASH_PRIME", type := .long, accessFlags := 26, slot := 7, constantValue := 0 }, { name := "POINT_STEP", type := .long, accessFlags := 26, slot := 8, constantValue := 0 }, { name := "PROBE_STEP", type := .long, accessFlags := 26, slot := 9, constantValue := 0 }, { name := "rings", type := (.object "com/example/evenkeel/evenkeel/ConsistentHash$Rings"), accessFlags := 66, slot := 0, constantValue := 0 }]
  methods := #[k3m0]
  instanceTypes := #[(.object "com/example/evenkeel/evenkeel/ConsistentHash$Rings")]
  staticTypes := #[.int, .int, .int, .int, .int, .int, .long, .long, .long, .long]
  resolved := Array.replicate 144 none
  statics := none }

def pool4 : Array CpInfo := pool [(1, u "java/lang/Cloneable"), (0, .class_ 1), (0, u "java/lang/Object"), (0, .class_ 3)] 3

/-- java/lang/Cloneable -/
def k4 : Class := { plain "java/lang/Cloneable" (some 0) with
  accessFlags := 1537
  interfaces := #[]
  cf := some (fileOf pool4 2 #[] #[] 1537 4 #[] #[])
  fields := #[]
  methods := #[]
  instanceTypes := #[]
  staticTypes := #[]
  resolved := Array.replicate 8 none
  statics := none }

def pool5 : Array CpInfo := pool [(1, u "java/io/Serializable"), (0, .class_ 1), (0, u "java/lang/Object"), (0, .class_ 3)] 3

/-- java/io/Serializable -/
def k5 : Class := { plain "java/io/Serializable" (some 0) with
  accessFlags := 1537
  interfaces := #[]
  cf := some (fileOf pool5 2 #[] #[] 1537 4 #[] #[])
  fields := #[]
  methods := #[]
  instanceTypes := #[]
  staticTypes := #[]
  resolved := Array.replicate 8 none
  statics := none }

/-- the primitive byte -/
def k6 : Class := { plain "byte" none with kind := .primitive 'B', accessFlags := 0x411 }
/-- [B -/
def k7 : Class := { plain "[B" (some 0) with kind := .array 6 .byte, interfaces := #[4, 5], accessFlags := 1041 }

/-- the primitive int -/
def k8 : Class := { plain "int" none with kind := .primitive 'I', accessFlags := 0x411 }
/-- [I -/
def k9 : Class := { plain "[I" (some 0) with kind := .array 8 .int, interfaces := #[4, 5], accessFlags := 1041 }

def heap : Heap := #[]
def classes : Array Class := #[k0, k1, k2, k3, k4, k5, k6, k7, k8, k9]
def interned : List (Array UInt16 × Addr) := []
def slotsUsed : Nat := 0
def theMethod : MethodId := ⟨1, 2⟩
def args0 : Array Value := #[.long 3]
def aboutOver (below : List Frame) : State where
  vm := { classes := classes, interned := interned.toArray }
  heap := heap
  slotsUsed := slotsUsed
  threads := #[{ frames := .invoking theMethod args0 :: below }]
def below0 : List Frame := [.native { method := ⟨0, 0⟩, args := #[] }]
def about1 : State := aboutOver below0
def p0 : Program := .bare "" "" ""
def e0 : Env := launch0.env 0 0 0
theorem w_frames : about1.frames = Frame.invoking theMethod args0 :: below0 := rfl
set_option maxRecDepth 65536 in
theorem w_args : argsFit about1.vm theMethod args0 = true := by decide +kernel
set_option maxRecDepth 65536 in
theorem w_heap : heapFits about1 = true := by decide +kernel
set_option maxRecDepth 65536 in
theorem w_runnable : about1.curStatus? = some .runnable := by decide +kernel
set_option maxRecDepth 65536 in
theorem w_alone : about1.alone = true := by decide +kernel
set_option maxRecDepth 65536 in
theorem w_named : about1.methodNamed? x = some theMethod := by decide +kernel
set_option maxRecDepth 65536 in
theorem w_hears : about1.hears theMethod below0 = true := by decide +kernel
set_option maxRecDepth 65536 in
theorem w_ripe : about1.ripe theMethod args0 below0 = true := by decide +kernel
theorem w_running : about1.status = .running := rfl
set_option maxRecDepth 65536 in
theorem w_room : about1.hasRoom e0.platform room_1 = true :=
  launch0.hasRoom_least _ room_1 (by decide +kernel) (by decide +kernel) (by decide +kernel) (by decide +kernel) (by decide +kernel) (by decide +kernel)
theorem allAtoms_all (ts : List Jvm.Cond) (a : Array Jvm.Value) (st : Jvm.State) : (allAtoms ts).before a st = ts.all (fun c => c.before a st) := by
  induction ts with
  | nil => rfl
  | cons c t ih =>
    show (Jvm.Cond.and c (allAtoms t)).before a st = _
    rw [Jvm.Cond.before_and, ih, List.all_cons]
def words1 : List Jvm.Cond := Jvm.Cond.code x code maxLocals ret :: tables_1
/-- a 'code' word, met by the world's own term for the bytes: nothing is compared byte by byte -/
theorem code_word {y : MethodName} {bytes : ByteArray} {mx : Nat} {rt : Option FieldType} {a : Array Value} {s : State} {m : MethodId} {meth : Method} {c : Code} (h1 : s.methodNamed? y = some m) (h2 : s.vm.method? m = some meth) (h3 : meth.code = some c) (h4 : c.code = bytes)
    (h5 : (c.maxLocals == mx && c.exceptionTable.isEmpty && decide (c.maxStack ≤ mostOperands) && decide (meth.sig.returnType = rt) && !meth.locks && decide (parseMethodDescriptor y.desc = some meth.sig)) = true) : (Jvm.Cond.code y bytes mx rt).before a s = true := by
  simp only [Bool.and_eq_true, beq_iff_eq, Bool.not_eq_true', decide_eq_true_eq] at h5
  obtain ⟨⟨⟨⟨⟨g1, g2⟩, g3⟩, g4⟩, g5⟩, g6⟩ := h5
  simp [Cond.before, Cond.holds, Cond.value, h1, h2, h3, h4, g1, g2, g3, g4, g5, g6]
def isCode : Jvm.Cond → Bool
  | .code _ _ _ _ => true
  | _ => false
theorem all_split {L : List Jvm.Cond} {P : Jvm.Cond → Bool} (h1 : L.all (fun c => isCode c || P c) = true) (h2 : ∀ c ∈ L.filter isCode, P c = true) : L.all P = true := by
  refine List.all_eq_true.mpr fun c hc => ?_
  have h := List.all_eq_true.mp h1 c hc
  rcases Bool.eq_false_or_eq_true (isCode c) with hi | hi
  · exact h2 c (List.mem_filter.mpr ⟨hc, hi⟩)
  · simpa [hi] using h
set_option maxRecDepth 65536 in
theorem w_c0 : (Jvm.Cond.code x code maxLocals ret).before args0 about1 = true := code_word (m := ⟨1, 2⟩) (meth := k1m2) (c := k1c2) (by decide +kernel) rfl rfl rfl (by decide +kernel)
set_option maxRecDepth 65536 in
theorem w_c1 : (Jvm.Cond.code ({ cls := "com/example/evenkeel/evenkeel/ConsistentHash", name := "scramble", desc := "(J)J" } : Jvm.MethodName) prog_6_method_8_code (4 : Nat) (Option.some Jvm.ClassFile.FieldType.long)).before args0 about1 = true := code_word (m := ⟨3, 0⟩) (meth := k3m0) (c := k3c0) (by decide +kernel) rfl rfl rfl (by decide +kernel)
set_option maxRecDepth 65536 in
theorem w_c2 : (Jvm.Cond.code ({ cls := "com/example/evenkeel/evenkeel/ConsistentHashScramblePinLaw", name := "unscramble", desc := "(J)J" } : Jvm.MethodName) method_2_code (4 : Nat) (Option.some Jvm.ClassFile.FieldType.long)).before args0 about1 = true := code_word (m := ⟨1, 1⟩) (meth := k1m1) (c := k1c1) (by decide +kernel) rfl rfl rfl (by decide +kernel)
def codes1 : List Jvm.Cond := [Jvm.Cond.code x code maxLocals ret, Jvm.Cond.code ({ cls := "com/example/evenkeel/evenkeel/ConsistentHash", name := "scramble", desc := "(J)J" } : Jvm.MethodName) prog_6_method_8_code (4 : Nat) (Option.some Jvm.ClassFile.FieldType.long), Jvm.Cond.code ({ cls := "com/example/evenkeel/evenkeel/ConsistentHashScramblePinLaw", name := "unscramble", desc := "(J)J" } : Jvm.MethodName) method_2_code (4 : Nat) (Option.some Jvm.ClassFile.FieldType.long)]
set_option maxRecDepth 65536 in
theorem codes_eq : words1.filter isCode = codes1 := rfl
theorem w_codes : ∀ c ∈ words1.filter isCode, c.before args0 about1 = true := by
  rw [codes_eq]
  intro c hc
  simp only [codes1, List.mem_cons, List.not_mem_nil, or_false] at hc
  rcases hc with rfl | rfl | rfl
  · exact w_c0
  · exact w_c1
  · exact w_c2
set_option maxRecDepth 65536 in
theorem w_t1 : words1.all (fun c => isCode c || c.before args0 about1) = true := by decide +kernel
theorem w_tables : (allAtoms (Jvm.Cond.code x code maxLocals ret :: tables_1)).before args0 about1 = true := by
  rw [allAtoms_all]
  show words1.all (fun c => c.before args0 about1) = true
  refine all_split ?_ w_codes
  rw [w_t1]
set_option maxRecDepth 65536 in
theorem w_case : (Jvm.Cond.and given_1 narrow_1).before args0 about1 = true := by decide +kernel
theorem w_applies : (headSpec (Jvm.Cond.code x code maxLocals ret :: tables_1) room_1).applies x e0.platform about1 = true :=
  (Spec.applies_iff w_frames).mpr ⟨w_running, w_runnable, w_alone, w_named, w_hears, w_ripe, w_room, w_tables⟩
theorem atStart : AtStart classFile x code maxLocals ret World_1 tables_1 room_1 Calls_1 rest_1 Pre_1 launch0 p0 e0 about1 theMethod args0 below0 :=
  ⟨lists_1, trivial, launch0.admits_env _ _ _, launch0.least_env, fairChoices_fair.cas, fairChoices_fair.clock, w_frames, w_args, w_heap, w_applies, trivial, trivial, w_case⟩
end start1
theorem witness_1 : WitnessClaimed_1 := ⟨start1.p0, start1.e0, start1.about1, start1.theMethod, start1.args0, start1.below0, start1.atStart⟩
end Jvm.Pilot.@@N@@
